import JvmDerived
import JvmDerived.Pilot.@@N@@Statement
import JvmDerived.Pilot.@@N@@Code
set_option linter.unusedVariables false
set_option linter.unusedSimpArgs false
/- laws to paste: Road.backV (cut by pick.py; bodies as the Statement names them) -/
namespace Jvm.Pilot.@@N@@
namespace StrChars
open Jvm Sem ClassFile Op Lib Jvm.Stand Jvm.Free.XT Jvm.Free.ALB Jvm.Free.JM Jvm.Free
open Jvm.Lib.Cold (StaticIs)
/-- a char array whose places are chars -/
def Ch (a : Addr) (A : Cell) (U : State) : Prop := Arr .char a A U ∧ Typed .char A
theorem Ch.mv {a : Addr} {A : Cell} {U U' : State} (h : Ch a A U) (hal : U.vm.Alike U'.vm) (hh : U'.heap = U.heap) : Ch a A U' := ⟨h.1.mv hal hh, h.2⟩
theorem Ch.keep {a : Addr} {A : Cell} {U U' : State} (h : Ch a A U) (hal : U.vm.Alike U'.vm) (hk : U'.heap[a]? = some A) : Ch a A U' := ⟨h.1.keep hal hk, h.2⟩
/-- what place i of a char[]'s cell holds -/
def cv (A : Cell) (i : Nat) : Int32 := match A.slots[i]? with | some (.int x) => x | _ => 0
theorem Ch.get {a : Addr} {A : Cell} {U : State} (h : Ch a A U) {i : Nat} (hi : i < A.slots.size) : A.slots[i]? = some (.int (cv A i)) := by
  have e := Array.getElem?_eq_getElem hi
  have f := h.2 i _ e
  unfold cv; rw [e]
  generalize A.slots[i] = v at f
  cases v <;> simp [fits] at f ⊢
/-- the byte that i2b leaves of a char -/
def lo8 (x : Int32) : Int32 := x.toInt8.toInt32
theorem fits_lo8 (y : Int32) : fits .byte (.int (lo8 y)) = true := by
  have h1 := y.toInt8.le_toInt
  have h2 := y.toInt8.toInt_lt
  simp only [lo8, fits, Bool.and_eq_true, decide_eq_true_eq, Int32.le_iff_toInt_le, Int8.toInt_toInt32, show (-128 : Int32).toInt = -128 from by decide, show (127 : Int32).toInt = 127 from by decide]
  omega
/-- A' is A but that each place j of lo .. hi - 1 holds f j -/
def Laid (A A' : Cell) (lo hi : Nat) (f : Nat → Value) : Prop := A'.cls = A.cls ∧ A'.vm = A.vm ∧ A'.slots.size = A.slots.size ∧ ∀ i, A'.slots[i]? = if lo ≤ i ∧ i < hi then some (f i) else A.slots[i]?
theorem Laid.zero (A : Cell) (lo : Nat) (f : Nat → Value) : Laid A A lo (lo + 0) f := ⟨rfl, rfl, rfl, fun i => by rw [if_neg (by omega)]⟩
theorem Laid.step {A Ak : Cell} {lo k : Nat} {f : Nat → Value} {v : Value} (h : Laid A Ak lo k f) (hlo : lo ≤ k) (hk : k < Ak.slots.size) (hv : v = f k) : Laid A (Ak.setSlot k v) lo (k + 1) f := by
  refine ⟨h.1, h.2.1, by simpa [Cell.setSlot] using h.2.2.1, fun i => ?_⟩
  by_cases e : k = i
  · subst e; rw [Cell.slots_setSlot_self v hk, if_pos (by omega), hv]
  · rw [Cell.slots_setSlot_ne v e, h.2.2.2 i]
    by_cases q : lo ≤ i ∧ i < k
    · rw [if_pos q, if_pos (by omega)]
    · rw [if_neg q, if_neg (by omega)]
def U16 : String := "java/lang/StringUTF16"
namespace Cmp5
def yN : MethodName := ⟨"java/lang/StringUTF16", "compress", "([CI[BII)I"⟩
abbrev yB : ByteArray := jdk_52_method_21_code
theorem d0 : decode yB 0 = .ok (.iconst 0, 1) := by decide +kernel
theorem d1 : decode yB 1 = .ok (.istore 5, 2) := by decide +kernel
theorem d3 : decode yB 3 = .ok (.iload 5, 2) := by decide +kernel
theorem d5 : decode yB 5 = .ok (.iload 4, 2) := by decide +kernel
theorem d7 : decode yB 7 = .ok (.if_icmp (.ge) 37, 3) := by decide +kernel
theorem d10 : decode yB 10 = .ok (.aload_n 0, 1) := by decide +kernel
theorem d11 : decode yB 11 = .ok (.iload_n 1, 1) := by decide +kernel
theorem d12 : decode yB 12 = .ok (.caload, 1) := by decide +kernel
theorem d13 : decode yB 13 = .ok (.istore 6, 2) := by decide +kernel
theorem d15 : decode yB 15 = .ok (.iload 6, 2) := by decide +kernel
theorem d17 : decode yB 17 = .ok (.sipush 255, 3) := by decide +kernel
theorem d20 : decode yB 20 = .ok (.if_icmp (.le) 6, 3) := by decide +kernel
theorem d26 : decode yB 26 = .ok (.aload_n 2, 1) := by decide +kernel
theorem d27 : decode yB 27 = .ok (.iload_n 3, 1) := by decide +kernel
theorem d28 : decode yB 28 = .ok (.iload 6, 2) := by decide +kernel
theorem d30 : decode yB 30 = .ok (.i2b, 1) := by decide +kernel
theorem d31 : decode yB 31 = .ok (.bastore, 1) := by decide +kernel
theorem d32 : decode yB 32 = .ok (.iinc 1 1, 3) := by decide +kernel
theorem d35 : decode yB 35 = .ok (.iinc 3 1, 3) := by decide +kernel
theorem d38 : decode yB 38 = .ok (.iinc 5 1, 3) := by decide +kernel
theorem d41 : decode yB 41 = .ok (.goto (-38), 3) := by decide +kernel
theorem d44 : decode yB 44 = .ok (.iload 4, 2) := by decide +kernel
theorem d46 : decode yB 46 = .ok (.ireturn, 1) := by decide +kernel
def site : List Cond := []
def tab : Cond := tabOf yN yB 7 (some .int) site
def P (b : Addr) (A : Cell) (d : Addr) (B : Cell) (o q len : Nat) (args : Array Value) (s : State) : Prop := args = #[.ref b, .int (Int32.ofNat o), .ref d, .int (Int32.ofNat q), .int (Int32.ofNat len)] ∧ Ch b A s ∧ Arr .byte d B s ∧ b ≠ d ∧ o + len ≤ A.slots.size ∧ q + len ≤ B.slots.size ∧ ∀ i, i < len → ¬ 255 < cv A (o + i)
def E (b : Addr) (A : Cell) (d : Addr) (B : Cell) (o q len : Nat) (r : Option Value) (s u : State) : Prop := r = some (.int (Int32.ofNat len)) ∧ ∃ B', Put d B' s u ∧ Laid B B' q (q + len) (fun j => Value.int (lo8 (cv A (o + (j - q)))))
/-- no char of the range above 255: len; the places written hold each char's low byte -/
theorem law (l : Launch) (b : Addr) (A : Cell) (d : Addr) (B : Cell) (o q len : Nat) : Law l yN 5 5 0 0 yB 7 (some .int) site (P b A d B o q len) (E b A d B o q len) (copyLocs d q len) 0 0 := by
  refine Law.of_walk (plainFor_of_name (by decide +kernel)) (by decide +kernel) (by decide +kernel) (by decide) (fun _ _ h => by rw [h.1]; rfl) (fun _ U U' hal hh h => ⟨h.1, h.2.1.mv hal hh, h.2.2.1.mv hal hh, h.2.2.2⟩) (fun r U U' V V' h1 hal h2 h => ⟨h.1, h.2.elim fun B' q => ⟨B', q.1.mv h1 h2, q.2⟩⟩) ?_
  intro p e s m args below meth c s₁ X0 hexec hbytes hml hret hlk hnm hown hh0 W hP
  obtain ⟨rfl, hA, hB, hne, l1, l2, hp⟩ := hP
  have c1 : Steps p.tables e below (s₁.setTop (entryFrame m #[.ref b, .int (Int32.ofNat o), .ref d, .int (Int32.ofNat q), .int (Int32.ofNat len)] 7)) (s₁.setTop (mkF m 0 #[.val (.ref b), .val (.int (Int32.ofNat o)), .val (.ref d), .val (.int (Int32.ofNat q)), .val (.int (Int32.ofNat len)), .unset, .unset] [])) := entry rfl
  have hA0 := hA.1.mv X0.warmed.alike hh0
  have hB0 := hB.mv X0.warmed.alike hh0
  have a31 := hA.1.2.2.2
  have c2 : Steps p.tables e below (s₁.setTop (entryFrame m #[.ref b, .int (Int32.ofNat o), .ref d, .int (Int32.ofNat q), .int (Int32.ofNat len)] 7)) (s₁.setTop (mkF m 3 #[.val (.ref b), .val (.int (Int32.ofNat o)), .val (.ref d), .val (.int (Int32.ofNat q)), .val (.int (Int32.ofNat len)), .val (.int 0), .unset] [])) := c1.trans (by
    refine iconstV X0.here hexec rfl 0 (hb hbytes d0) (by decide) ?_
    refine XS.istore X0.here hexec rfl (hb hbytes d1) rfl rfl ?_
    exact Steps.refl _)
  have loop : ∀ (r i : Nat), i + r = len → ∀ (z : Slot), (z = .unset ∨ ∃ w, z = .val w ∧ w.category = 1) → ∀ (Tl : State) (Bk : Cell), Stand p l e { frames := 0, locals := 0, cells := 0, slots := 0 } s m #[.ref b, .int (Int32.ofNat o), .ref d, .int (Int32.ofNat q), .int (Int32.ofNat len)] below meth c Tl ([] ++ copyLocs d q i) 0 0 → Put d Bk s₁ Tl → Laid B Bk q (q + i) (fun j => Value.int (lo8 (cv A (o + (j - q))))) →
      Steps p.tables e below (s₁.setTop (entryFrame m #[.ref b, .int (Int32.ofNat o), .ref d, .int (Int32.ofNat q), .int (Int32.ofNat len)] 7)) (Tl.setTop (mkF m 3 #[.val (.ref b), .val (.int (Int32.ofNat (o + i))), .val (.ref d), .val (.int (Int32.ofNat (q + i))), .val (.int (Int32.ofNat len)), .val (.int (Int32.ofNat i)), z] [])) → ∃ (T' : State) (B' : Cell) (z' : Slot), Stand p l e { frames := 0, locals := 0, cells := 0, slots := 0 } s m #[.ref b, .int (Int32.ofNat o), .ref d, .int (Int32.ofNat q), .int (Int32.ofNat len)] below meth c T' ([] ++ copyLocs d q len) 0 0 ∧ Put d B' s₁ T' ∧ Laid B B' q (q + len) (fun j => Value.int (lo8 (cv A (o + (j - q))))) ∧
      Steps p.tables e below (s₁.setTop (entryFrame m #[.ref b, .int (Int32.ofNat o), .ref d, .int (Int32.ofNat q), .int (Int32.ofNat len)] 7)) (T'.setTop (mkF m 3 #[.val (.ref b), .val (.int (Int32.ofNat (o + len))), .val (.ref d), .val (.int (Int32.ofNat (q + len))), .val (.int (Int32.ofNat len)), .val (.int (Int32.ofNat len)), z'] [])) := by
    intro r
    induction r with
    | zero =>
      intro i hi z hz Tl Bk Xl pl fl cl
      have hil : i = len := by omega
      rw [hil] at Xl fl cl
      exact ⟨Tl, Bk, z, Xl, pl, fl, cl⟩
    | succ r ih =>
      intro i hi z hz Tl Bk Xl pl fl cl
      have all := X0.warmed.alike.symm.trans Xl.warmed.alike
      have hAl := hA0.keep all (pl.other hne hA0.1)
      have hBk := hB0.like all pl.1 fl.1 fl.2.1 fl.2.2.1
      have hlt : q + i < Bk.slots.size := by rw [fl.2.2.1]; omega
      have c3 : Steps p.tables e below (s₁.setTop (entryFrame m #[.ref b, .int (Int32.ofNat o), .ref d, .int (Int32.ofNat q), .int (Int32.ofNat len)] 7)) (Tl.setTop (mkF m 12 #[.val (.ref b), .val (.int (Int32.ofNat (o + i))), .val (.ref d), .val (.int (Int32.ofNat (q + i))), .val (.int (Int32.ofNat len)), .val (.int (Int32.ofNat i)), z] [.int (Int32.ofNat (o + i)), .ref b])) := cl.trans (by
        refine XS.iload Xl.here hexec rfl (hb hbytes d3) rfl ?_
        refine XS.iload Xl.here hexec rfl (hb hbytes d5) rfl ?_
        refine XS.icmpNo Xl.here hexec rfl (hb hbytes d7) rfl (ii_ge_f (lt32 (by omega) (by omega))) ?_
        refine XS.aloadN Xl.here hexec rfl (hb hbytes d10) rfl rfl ?_
        refine XS.iloadN Xl.here hexec rfl (hb hbytes d11) rfl ?_
        exact Steps.refl _)
      have c4 : Steps p.tables e below (s₁.setTop (entryFrame m #[.ref b, .int (Int32.ofNat o), .ref d, .int (Int32.ofNat q), .int (Int32.ofNat len)] 7)) (Tl.setTop (mkF m 13 #[.val (.ref b), .val (.int (Int32.ofNat (o + i))), .val (.ref d), .val (.int (Int32.ofNat (q + i))), .val (.int (Int32.ofNat len)), .val (.int (Int32.ofNat i)), z] [.int (cv A (o + i))])) := c3.trans (by
        refine Xl.aget hexec hAl rfl (hA.get (i := o + i) (by omega)) rfl rfl (hb hbytes d12) ?_
        exact Steps.refl _)
      have c5 : Steps p.tables e below (s₁.setTop (entryFrame m #[.ref b, .int (Int32.ofNat o), .ref d, .int (Int32.ofNat q), .int (Int32.ofNat len)] 7)) (Tl.setTop (mkF m 15 #[.val (.ref b), .val (.int (Int32.ofNat (o + i))), .val (.ref d), .val (.int (Int32.ofNat (q + i))), .val (.int (Int32.ofNat len)), .val (.int (Int32.ofNat i)), .val (.int (cv A (o + i)))] [])) := c4.trans (by
        refine XS.istoreS Xl.here hexec rfl (hb hbytes d13) rfl rfl hz ?_
        exact Steps.refl _)
      have c6 : Steps p.tables e below (s₁.setTop (entryFrame m #[.ref b, .int (Int32.ofNat o), .ref d, .int (Int32.ofNat q), .int (Int32.ofNat len)] 7)) (Tl.setTop (mkF m 31 #[.val (.ref b), .val (.int (Int32.ofNat (o + i))), .val (.ref d), .val (.int (Int32.ofNat (q + i))), .val (.int (Int32.ofNat len)), .val (.int (Int32.ofNat i)), .val (.int (cv A (o + i)))] [.int (lo8 (cv A (o + i))), .int (Int32.ofNat (q + i)), .ref d])) := c5.trans (by
        refine XS.iload Xl.here hexec rfl (hb hbytes d15) rfl ?_
        refine sipushV Xl.here hexec rfl 255 (hb hbytes d17) (by decide) ?_
        refine XS.icmpYes Xl.here hexec rfl (pc0 := 20) rfl (hb hbytes d20) rfl (ii_le_t (hp i (by omega))) (by decide) rfl ?_
        refine XS.aloadN Xl.here hexec rfl (hb hbytes d26) rfl rfl ?_
        refine XS.iloadN Xl.here hexec rfl (hb hbytes d27) rfl ?_
        refine XS.iload Xl.here hexec rfl (hb hbytes d28) rfl ?_
        refine i2b Xl.here hexec rfl (hb hbytes d30) rfl ?_
        exact Steps.refl _)
      obtain ⟨T7, X7, p7, st7⟩ := Xl.aput hexec hBk rfl hlt rfl (fits_lo8 (cv A (o + i))) (g := (mkF m 31 #[.val (.ref b), .val (.int (Int32.ofNat (o + i))), .val (.ref d), .val (.int (Int32.ofNat (q + i))), .val (.int (Int32.ofNat len)), .val (.int (Int32.ofNat i)), .val (.int (cv A (o + i)))] [.int (lo8 (cv A (o + i))), .int (Int32.ofNat (q + i)), .ref d])) rfl (rest := []) rfl (hb hbytes d31)
      have c8 : Steps p.tables e below (s₁.setTop (entryFrame m #[.ref b, .int (Int32.ofNat o), .ref d, .int (Int32.ofNat q), .int (Int32.ofNat len)] 7)) (T7.setTop (mkF m 32 #[.val (.ref b), .val (.int (Int32.ofNat (o + i))), .val (.ref d), .val (.int (Int32.ofNat (q + i))), .val (.int (Int32.ofNat len)), .val (.int (Int32.ofNat i)), .val (.int (cv A (o + i)))] [])) := c6.trans (st7 _ (Steps.refl _))
      have c9 : Steps p.tables e below (s₁.setTop (entryFrame m #[.ref b, .int (Int32.ofNat o), .ref d, .int (Int32.ofNat q), .int (Int32.ofNat len)] 7)) (T7.setTop (mkF m 3 #[.val (.ref b), .val (.int (Int32.ofNat (o + i) + 1)), .val (.ref d), .val (.int (Int32.ofNat (q + i) + 1)), .val (.int (Int32.ofNat len)), .val (.int (Int32.ofNat i + 1)), .val (.int (cv A (o + i)))] [])) := c8.trans (by
        refine iincV X7.here hexec rfl 1 (hb hbytes d32) (by decide) rfl rfl ?_
        refine iincV X7.here hexec rfl 1 (hb hbytes d35) (by decide) rfl rfl ?_
        refine iincV X7.here hexec rfl 1 (hb hbytes d38) (by decide) rfl rfl ?_
        refine XS.goto X7.here hexec rfl (pc0 := 41) rfl (hb hbytes d41) (by decide) rfl ?_
        exact Steps.refl _)
      have c10 : Steps p.tables e below (s₁.setTop (entryFrame m #[.ref b, .int (Int32.ofNat o), .ref d, .int (Int32.ofNat q), .int (Int32.ofNat len)] 7)) (T7.setTop (mkF m 3 #[.val (.ref b), .val (.int (Int32.ofNat (o + (i + 1)))), .val (.ref d), .val (.int (Int32.ofNat (q + (i + 1)))), .val (.int (Int32.ofNat len)), .val (.int (Int32.ofNat (i + 1))), .val (.int (cv A (o + i)))] [])) := by
        have := c9
        rw [succ32, succ32, succ32] at this
        exact this
      exact ih (i + 1) (by omega) _ (Or.inr ⟨_, rfl, rfl⟩) T7 _ (by rw [copyLocs_step, ← List.append_assoc]; exact X7) (pl.trans p7) (fl.step (by omega) hlt (by simp)) c10
  obtain ⟨T9, B9, z9, X9, p9, f9, g9⟩ := loop len 0 (by omega) .unset (Or.inl rfl) s₁ B (by simpa [copyLocs] using X0) ⟨hB0.1, fun _ _ => rfl, rfl⟩ (Laid.zero _ _ _) c2
  have c11 : Steps p.tables e below (s₁.setTop (entryFrame m #[.ref b, .int (Int32.ofNat o), .ref d, .int (Int32.ofNat q), .int (Int32.ofNat len)] 7)) (T9.setTop (mkF m 46 #[.val (.ref b), .val (.int (Int32.ofNat (o + len))), .val (.ref d), .val (.int (Int32.ofNat (q + len))), .val (.int (Int32.ofNat len)), .val (.int (Int32.ofNat len)), z9] [.int (Int32.ofNat len)])) := g9.trans (by
    refine XS.iload X9.here hexec rfl (hb hbytes d3) rfl ?_
    refine XS.iload X9.here hexec rfl (hb hbytes d5) rfl ?_
    refine XS.icmpYes X9.here hexec rfl (pc0 := 7) rfl (hb hbytes d7) rfl (ii_ge_t (nlt32 (by omega) (Nat.le_refl _))) (by decide) rfl ?_
    refine XS.iload X9.here hexec rfl (hb hbytes d44) rfl ?_
    exact Steps.refl _)
  exact ⟨T9, some (.int (Int32.ofNat len)), _, _, _, X9, by simp, rfl, rfl, (fun h => by cases h), ⟨rfl, B9, p9.from hh0, f9⟩, fun fs hl => c11.trans (X9.ireturnOut hexec hret rfl (Or.inl rfl) (hb hbytes d46) hl)⟩
end Cmp5
namespace Cmp3
def yN : MethodName := ⟨"java/lang/StringUTF16", "compress", "([CII)[B"⟩
abbrev yB : ByteArray := jdk_52_method_16_code
theorem d0 : decode yB 0 = .ok (.iload_n 2, 1) := by decide +kernel
theorem d1 : decode yB 1 = .ok (.newarray .byte, 2) := by decide +kernel
theorem d3 : decode yB 3 = .ok (.astore_n 3, 1) := by decide +kernel
theorem d4 : decode yB 4 = .ok (.aload_n 0, 1) := by decide +kernel
theorem d5 : decode yB 5 = .ok (.iload_n 1, 1) := by decide +kernel
theorem d6 : decode yB 6 = .ok (.aload_n 3, 1) := by decide +kernel
theorem d7 : decode yB 7 = .ok (.iconst 0, 1) := by decide +kernel
theorem d8 : decode yB 8 = .ok (.iload_n 2, 1) := by decide +kernel
theorem d9 : decode yB 9 = .ok (.invokestatic 115, 3) := by decide +kernel
theorem d12 : decode yB 12 = .ok (.istore 4, 2) := by decide +kernel
theorem d14 : decode yB 14 = .ok (.iload 4, 2) := by decide +kernel
theorem d16 : decode yB 16 = .ok (.iload_n 2, 1) := by decide +kernel
theorem d17 : decode yB 17 = .ok (.if_icmp (.eq) 40, 3) := by decide +kernel
theorem d57 : decode yB 57 = .ok (.aload_n 3, 1) := by decide +kernel
theorem d58 : decode yB 58 = .ok (.areturn, 1) := by decide +kernel
def site : List Cond := [.arrayClass .byte, Cmp5.tab] ++ staticW U16 115 Cmp5.yN
def tab : Cond := tabOf yN yB 6 (some (.array .byte)) site
def P (b : Addr) (A : Cell) (o len : Nat) (args : Array Value) (s : State) : Prop := args = #[.ref b, .int (Int32.ofNat o), .int (Int32.ofNat len)] ∧ Ch b A s ∧ o + len ≤ A.slots.size ∧ len ≤ 536870912 ∧ ∀ i, i < len → ¬ 255 < cv A (o + i)
def E (b : Addr) (A : Cell) (o len : Nat) (r : Option Value) (s u : State) : Prop := NewArr .byte "[B" len (fun j => .int (lo8 (cv A (o + j)))) r s u ∧ u.heap.size = s.heap.size + 1
/-- no char of the range above 255: a new byte[] of their low bytes -/
theorem law (l : Launch) (b : Addr) (A : Cell) (o len : Nat) : Law l yN 3 3 1 18 yB 6 (some (.array .byte)) site (P b A o len) (E b A o len) [] 1 len := by
  refine Law.of_walk (plainFor_of_name (by decide +kernel)) (by decide +kernel) (by decide +kernel) (by decide) (fun _ _ h => by rw [h.1]; rfl) (fun _ U U' hal hh h => ⟨h.1, h.2.1.mv hal hh, h.2.2⟩) (fun r U U' V V' h1 hal h2 h => ⟨NewArr.mv r U U' V V' h1 hal h2 h.1, by rw [h1, h2]; exact h.2⟩) ?_
  intro p e s m args below meth c s₁ X0 hexec hbytes hml hret hlk hnm hown hh0 W hP
  obtain ⟨rfl, hA, l1, l2, hp⟩ := hP
  have a31 := hA.1.2.2.2
  have c1 : Steps p.tables e below (s₁.setTop (entryFrame m #[.ref b, .int (Int32.ofNat o), .int (Int32.ofNat len)] 6)) (s₁.setTop (mkF m 0 #[.val (.ref b), .val (.int (Int32.ofNat o)), .val (.int (Int32.ofNat len)), .unset, .unset, .unset] [])) := entry rfl
  have c2 : Steps p.tables e below (s₁.setTop (entryFrame m #[.ref b, .int (Int32.ofNat o), .int (Int32.ofNat len)] 6)) (s₁.setTop (mkF m 1 #[.val (.ref b), .val (.int (Int32.ofNat o)), .val (.int (Int32.ofNat len)), .unset, .unset, .unset] [.int (Int32.ofNat len)])) := c1.trans (by
    refine XS.iloadN X0.here hexec rfl (hb hbytes d0) rfl ?_
    exact Steps.refl _)
  obtain ⟨T3, B3, X3, ba3, bs3, bv3, bh3, bf3, st3⟩ := X0.anew hexec (atype := .byte) (wk W (.arrayClass .byte)) rfl (by show len * 1 ≤ _; omega) (by omega) (g := (mkF m 1 #[.val (.ref b), .val (.int (Int32.ofNat o)), .val (.int (Int32.ofNat len)), .unset, .unset, .unset] [.int (Int32.ofNat len)])) rfl (hb hbytes d1) (rest := []) rfl (Nat.le_refl _) (by show 0 + len ≤ len; omega)
  rw [hh0] at ba3 st3
  have kp3 : XT.Kept s T3 := (XT.Kept.of_eq hh0).push bh3
  have hA3 := hA.keep X3.warmed.alike (kp3 _ _ hA.1.1)
  have hne : b ≠ s.heap.size := hA.1.ne
  have c4 : Steps p.tables e below (s₁.setTop (entryFrame m #[.ref b, .int (Int32.ofNat o), .int (Int32.ofNat len)] 6)) (T3.setTop (mkF m 3 #[.val (.ref b), .val (.int (Int32.ofNat o)), .val (.int (Int32.ofNat len)), .unset, .unset, .unset] [.ref s.heap.size])) := c2.trans (st3 _ (Steps.refl _))
  have c5 : Steps p.tables e below (s₁.setTop (entryFrame m #[.ref b, .int (Int32.ofNat o), .int (Int32.ofNat len)] 6)) (T3.setTop (mkF m 9 #[.val (.ref b), .val (.int (Int32.ofNat o)), .val (.int (Int32.ofNat len)), .val (.ref s.heap.size), .unset, .unset] [.int (Int32.ofNat len), .int 0, .ref s.heap.size, .int (Int32.ofNat o), .ref b])) := c4.trans (by
    refine XS.astoreN X3.here hexec rfl (hb hbytes d3) rfl rfl rfl ?_
    refine XS.aloadN X3.here hexec rfl (hb hbytes d4) rfl rfl ?_
    refine XS.iloadN X3.here hexec rfl (hb hbytes d5) rfl ?_
    refine XS.aloadN X3.here hexec rfl (hb hbytes d6) rfl rfl ?_
    refine iconstV X3.here hexec rfl 0 (hb hbytes d7) (by decide) ?_
    refine XS.iloadN X3.here hexec rfl (hb hbytes d8) rfl ?_
    exact Steps.refl _)
  obtain ⟨v6, T6, X6, E6, g6⟩ := X3.callS hexec (Cmp5.law l b A s.heap.size B3 o 0 len) hown (wks W (staticW U16 115 Cmp5.yN)) (wk W Cmp5.tab) (W := 0) (Nat.le_of_ble_eq_true rfl) (Nat.le_of_ble_eq_true rfl) (Nat.le_refl _) (by show 0 + len + 0 ≤ len; omega) (g := (mkF m 9 #[.val (.ref b), .val (.int (Int32.ofNat o)), .val (.int (Int32.ofNat len)), .val (.ref s.heap.size), .unset, .unset] [.int (Int32.ofNat len), .int (Int32.ofNat 0), .ref s.heap.size, .int (Int32.ofNat o), .ref b])) rfl (by rw [hml]; rfl) c5 (argsL := [.ref b, .int (Int32.ofNat o), .ref s.heap.size, .int (Int32.ofNat 0), .int (Int32.ofNat len)]) (rest := []) rfl rfl (by show 2 * 0 + 0 ≤ _; decide) (hb hbytes d9) (⟨rfl, hA3, ba3, hne, l1, by rw [bs3]; simp, hp⟩)
  obtain ⟨rfl, B6, p6, f6⟩ := E6
  have c7 : Steps p.tables e below (s₁.setTop (entryFrame m #[.ref b, .int (Int32.ofNat o), .int (Int32.ofNat len)] 6)) (T6.setTop (mkF m 12 #[.val (.ref b), .val (.int (Int32.ofNat o)), .val (.int (Int32.ofNat len)), .val (.ref s.heap.size), .unset, .unset] [.int (Int32.ofNat len)])) := g6
  have c8 : Steps p.tables e below (s₁.setTop (entryFrame m #[.ref b, .int (Int32.ofNat o), .int (Int32.ofNat len)] 6)) (T6.setTop (mkF m 58 #[.val (.ref b), .val (.int (Int32.ofNat o)), .val (.int (Int32.ofNat len)), .val (.ref s.heap.size), .val (.int (Int32.ofNat len)), .unset] [.ref s.heap.size])) := c7.trans (by
    refine XS.istore X6.here hexec rfl (hb hbytes d12) rfl rfl ?_
    refine XS.iload X6.here hexec rfl (hb hbytes d14) rfl ?_
    refine XS.iloadN X6.here hexec rfl (hb hbytes d16) rfl ?_
    refine XS.icmpYes X6.here hexec rfl (pc0 := 17) rfl (hb hbytes d17) rfl (ii_eq_t rfl) (by decide) rfl ?_
    refine XS.aloadN X6.here hexec rfl (hb hbytes d57) rfl rfl ?_
    exact Steps.refl _)
  have X8 := X6.wide (L' := []) (cells' := 1) (slots' := len) (fun x hx hlt => by
    simp only [List.nil_append, copyLocs, List.mem_map, List.mem_range] at hx
    obtain ⟨i, -, rfl⟩ := hx
    exact absurd hlt (Nat.lt_irrefl _)) (Nat.le_refl _) (by omega)
  exact ⟨T6, some (.ref s.heap.size), _, _, _, X8, rfl, rfl, rfl, (fun h => by cases h), ⟨⟨rfl, B6, ba3.like (X3.warmed.alike.symm.trans X6.warmed.alike) p6.1 f6.1 f6.2.1 f6.2.2.1, f6.2.1.trans bv3, by rw [X6.warmed.alike.findClass, f6.1]; exact bf3, by rw [f6.2.2.1, bs3]; simp, fun j hj => by rw [f6.2.2.2 j, if_pos (by omega)]; rfl, kp3.put p6 (Nat.le_refl _)⟩, by rw [p6.2.2, bh3, hh0]; simp⟩, fun fs hl => c8.trans (X8.areturnOut hexec rfl hret rfl (hb hbytes d58) hl)⟩
end Cmp3
namespace CodL
def yN : MethodName := ⟨"java/lang/StringUTF16", "coderFromArrayLen", "([BI)B"⟩
abbrev yB : ByteArray := jdk_52_method_15_code
theorem d0 : decode yB 0 = .ok (.iload_n 1, 1) := by decide +kernel
theorem d1 : decode yB 1 = .ok (.aload_n 0, 1) := by decide +kernel
theorem d2 : decode yB 2 = .ok (.arraylength, 1) := by decide +kernel
theorem d3 : decode yB 3 = .ok (.isub, 1) := by decide +kernel
theorem d4 : decode yB 4 = .ok (.bipush 31, 2) := by decide +kernel
theorem d6 : decode yB 6 = .ok (.iushr, 1) := by decide +kernel
theorem d7 : decode yB 7 = .ok (.i2b, 1) := by decide +kernel
theorem d8 : decode yB 8 = .ok (.ireturn, 1) := by decide +kernel
def site : List Cond := []
def tab : Cond := tabOf yN yB 2 (some .byte) site
def P (d : Addr) (B : Cell) (args : Array Value) (s : State) : Prop := args = #[.ref d, .int (Int32.ofNat B.slots.size)] ∧ Arr .byte d B s
def E (r : Option Value) (s u : State) : Prop := XT.PureE (some (.int 0)) r s u
/-- an array as long as the number of chars: LATIN1 -/
theorem law (l : Launch) (d : Addr) (B : Cell) : Law l yN 2 2 0 0 yB 2 (some .byte) site (P d B) E [] 0 0 := by
  refine Law.of_walk (plainFor_of_name (by decide +kernel)) (by decide +kernel) (by decide +kernel) (by decide) (fun _ _ h => by rw [h.1]; rfl) (fun _ U U' hal hh h => ⟨h.1, h.2.mv hal hh⟩) (fun r U U' V V' h1 hal h2 h => XT.PureE.mv r U U' V V' h1 hal h2 h) ?_
  intro p e s m args below meth c s₁ X0 hexec hbytes hml hret hlk hnm hown hh0 W hP
  obtain ⟨rfl, hB⟩ := hP
  have hB0 := hB.mv X0.warmed.alike hh0
  have c1 : Steps p.tables e below (s₁.setTop (entryFrame m #[.ref d, .int (Int32.ofNat B.slots.size)] 2)) (s₁.setTop (mkF m 0 #[.val (.ref d), .val (.int (Int32.ofNat B.slots.size))] [])) := entry rfl
  have c2 : Steps p.tables e below (s₁.setTop (entryFrame m #[.ref d, .int (Int32.ofNat B.slots.size)] 2)) (s₁.setTop (mkF m 2 #[.val (.ref d), .val (.int (Int32.ofNat B.slots.size))] [.ref d, .int (Int32.ofNat B.slots.size)])) := c1.trans (by
    refine XS.iloadN X0.here hexec rfl (hb hbytes d0) rfl ?_
    refine XS.aloadN X0.here hexec rfl (hb hbytes d1) rfl rfl ?_
    exact Steps.refl _)
  have c3 : Steps p.tables e below (s₁.setTop (entryFrame m #[.ref d, .int (Int32.ofNat B.slots.size)] 2)) (s₁.setTop (mkF m 8 #[.val (.ref d), .val (.int (Int32.ofNat B.slots.size))] [.int (lo8 (ushr (Int32.ofNat B.slots.size - Int32.ofNat B.slots.size) 31))])) := c2.trans (by
    refine X0.alen hexec hB0 rfl rfl (hb hbytes d2) ?_
    refine XS.isub X0.here hexec rfl (hb hbytes d3) rfl ?_
    refine bipushV X0.here hexec rfl 31 (hb hbytes d4) (by decide) ?_
    refine iushr X0.here hexec rfl (hb hbytes d6) rfl ?_
    refine i2b X0.here hexec rfl (hb hbytes d7) rfl ?_
    exact Steps.refl _)
  have e0 : lo8 (ushr (Int32.ofNat B.slots.size - Int32.ofNat B.slots.size) 31) = 0 := by rw [Int32.sub_self]; decide
  rw [e0] at c3
  exact ⟨s₁, some (.int 0), _, _, _, X0, rfl, rfl, rfl, (fun h => by cases h), ⟨rfl, hh0⟩, fun fs hl => c3.trans (X0.ireturnOut hexec hret rfl (Or.inr (Or.inr (Or.inl rfl))) (hb hbytes d8) hl)⟩
end CodL
/-- the String at a is Latin-1 over a new byte[] (the heap's one new cell): the low bytes of the len chars of A from o on; every cell but a is kept -/
def Got (a : Addr) (D : Cell) (fV fC : Field) (A : Cell) (o len : Nat) (r : Option Value) (s u : State) : Prop := r = none ∧ ∃ D' V : Cell, Blank "java/lang/String" a D' u ∧ Same D D' [fV.slot, fC.slot] ∧ D'.slots[fV.slot]? = some (.ref s.heap.size) ∧ D'.slots[fC.slot]? = some (.int 0) ∧ Arr .byte s.heap.size V u ∧ V.vm = .none ∧ u.vm.findClass "[B" = some V.cls ∧ V.slots.size = len ∧ (∀ j, j < len → V.slots[j]? = some (.int (lo8 (cv A (o + j))))) ∧ (∀ (y : Addr) (c : Cell), y ≠ a → s.heap[y]? = some c → u.heap[y]? = some c) ∧ u.heap.size = s.heap.size + 1
theorem Got.mv {a : Addr} {D A : Cell} {fV fC : Field} {o len : Nat} : ∀ r (U U' V V' : State), U'.heap = U.heap → V.vm.Alike V'.vm → V'.heap = V.heap → Got a D fV fC A o len r U V → Got a D fV fC A o len r U' V' :=
  fun r U U' V V' h1 hal h2 ⟨e0, D', X, a1, a2, a3, a4, a5, a6, a7, a8, a9, a10, a11⟩ => ⟨e0, D', X, a1.mv hal h2, a2, by rw [h1]; exact a3, a4, by rw [h1]; exact a5.mv hal h2, a6, by rw [hal.findClass]; exact a7, a8, a9, by rw [h1, h2]; exact a10, by rw [h1, h2]; exact a11⟩
namespace New4
def yN : MethodName := ⟨"java/lang/String", "<init>", "([CIILjava/lang/Void;)V"⟩
abbrev yB : ByteArray := jdk_42_method_149_code
theorem d0 : decode yB 0 = .ok (.aload_n 0, 1) := by decide +kernel
theorem d1 : decode yB 1 = .ok (.invokespecial 1, 3) := by decide +kernel
theorem d4 : decode yB 4 = .ok (.iload_n 3, 1) := by decide +kernel
theorem d5 : decode yB 5 = .ok (.ifCond (.ne) 22, 3) := by decide +kernel
theorem d27 : decode yB 27 = .ok (.getstatic 38, 3) := by decide +kernel
theorem d30 : decode yB 30 = .ok (.ifCond (.eq) 28, 3) := by decide +kernel
theorem d33 : decode yB 33 = .ok (.aload_n 1, 1) := by decide +kernel
theorem d34 : decode yB 34 = .ok (.iload_n 2, 1) := by decide +kernel
theorem d35 : decode yB 35 = .ok (.iload_n 3, 1) := by decide +kernel
theorem d36 : decode yB 36 = .ok (.invokestatic 177, 3) := by decide +kernel
theorem d39 : decode yB 39 = .ok (.astore 5, 2) := by decide +kernel
theorem d41 : decode yB 41 = .ok (.aload_n 0, 1) := by decide +kernel
theorem d42 : decode yB 42 = .ok (.aload 5, 2) := by decide +kernel
theorem d44 : decode yB 44 = .ok (.iload_n 3, 1) := by decide +kernel
theorem d45 : decode yB 45 = .ok (.invokestatic 47, 3) := by decide +kernel
theorem d48 : decode yB 48 = .ok (.putfield 15, 3) := by decide +kernel
theorem d51 : decode yB 51 = .ok (.aload_n 0, 1) := by decide +kernel
theorem d52 : decode yB 52 = .ok (.aload 5, 2) := by decide +kernel
theorem d54 : decode yB 54 = .ok (.putfield 9, 3) := by decide +kernel
theorem d57 : decode yB 57 = .ok (.return_, 1) := by decide +kernel
def site : List Cond := [.fieldLink "java/lang/String" 38 "java/lang/String" "COMPACT_STRINGS" "Z", Cmp3.tab, CodL.tab, .laysFinal "java/lang/String" "java/lang/String" "value" "[B", .fieldLink "java/lang/String" 9 "java/lang/String" "value" "[B", .laysFinal "java/lang/String" "java/lang/String" "coder" "B", .fieldLink "java/lang/String" 15 "java/lang/String" "coder" "B"] ++ objW "java/lang/String" 1 ++ staticW "java/lang/String" 177 Cmp3.yN ++ staticW "java/lang/String" 47 CodL.yN
def tab : Cond := tabOf yN yB 6 none site
def P (a : Addr) (D : Cell) (fV fC : Field) (b : Addr) (A : Cell) (z : Int32) (o len : Nat) (args : Array Value) (s : State) : Prop := args = #[.ref a, .ref b, .int (Int32.ofNat o), .int (Int32.ofNat len), .null] ∧ Blank "java/lang/String" a D s ∧ Found "java/lang/String" "value" "[B" fV s ∧ Found "java/lang/String" "coder" "B" fC s ∧ Ch b A s ∧ StaticIs s "java/lang/String" "COMPACT_STRINGS" "Z" (.int z) ∧ ¬ z = 0 ∧ 0 < len ∧ o + len ≤ A.slots.size ∧ len ≤ 536870912 ∧ ∀ i, i < len → ¬ 255 < cv A (o + i)
def E (a : Addr) (D : Cell) (fV fC : Field) (A : Cell) (o len : Nat) (r : Option Value) (s u : State) : Prop := Got a D fV fC A o len r s u
/-- len > 0, no char of the range above 255: a Latin-1 String of their low bytes -/
theorem law (l : Launch) (a : Addr) (D : Cell) (fV fC : Field) (b : Addr) (A : Cell) (z : Int32) (o len : Nat) : Law l yN 5 4 2 35 yB 6 none site (P a D fV fC b A z o len) (E a D fV fC A o len) [⟨a, fC.slot⟩, ⟨a, fV.slot⟩] 1 len := by
  refine Law.of_walk (plainFor_of_name (by decide +kernel)) (by decide +kernel) (by decide +kernel) (by decide) (fun _ _ h => by rw [h.1]; rfl) (fun _ U U' hal hh h => ⟨h.1, h.2.1.mv hal hh, h.2.2.1.al hal, h.2.2.2.1.al hal, h.2.2.2.2.1.mv hal hh, h.2.2.2.2.2.1.there hal hh, h.2.2.2.2.2.2⟩) (fun r U U' V V' h1 hal h2 h => Got.mv r U U' V V' h1 hal h2 h) ?_
  intro p e s m args below meth c s₁ X0 hexec hbytes hml hret hlk hnm hown hh0 W hP
  obtain ⟨rfl, hB, f1, f2, hA, s1, hz, l0, l1, l2, hp⟩ := hP
  have a31 := hA.1.2.2.2
  have c1 : Steps p.tables e below (s₁.setTop (entryFrame m #[.ref a, .ref b, .int (Int32.ofNat o), .int (Int32.ofNat len), .null] 6)) (s₁.setTop (mkF m 0 #[.val (.ref a), .val (.ref b), .val (.int (Int32.ofNat o)), .val (.int (Int32.ofNat len)), .val .null, .unset] [])) := entry rfl
  have c2 : Steps p.tables e below (s₁.setTop (entryFrame m #[.ref a, .ref b, .int (Int32.ofNat o), .int (Int32.ofNat len), .null] 6)) (s₁.setTop (mkF m 1 #[.val (.ref a), .val (.ref b), .val (.int (Int32.ofNat o)), .val (.int (Int32.ofNat len)), .val .null, .unset] [.ref a])) := c1.trans (by
    refine XS.aloadN X0.here hexec rfl (hb hbytes d0) rfl rfl ?_
    exact Steps.refl _)
  obtain ⟨T3, X3, q3, st3⟩ := X0.oinit hexec hown (wks W (objW "java/lang/String" 1)) (g := (mkF m 1 #[.val (.ref a), .val (.ref b), .val (.int (Int32.ofNat o)), .val (.int (Int32.ofNat len)), .val .null, .unset] [.ref a])) rfl (by rw [hml]; rfl) (rest := []) rfl (hb hbytes d1) (W := 0) (by show 2 * 0 + 0 ≤ _; decide) (Nat.le_of_ble_eq_true rfl) (Nat.le_of_ble_eq_true rfl)
  have hh3 := q3.trans hh0
  have c4 : Steps p.tables e below (s₁.setTop (entryFrame m #[.ref a, .ref b, .int (Int32.ofNat o), .int (Int32.ofNat len), .null] 6)) (T3.setTop (mkF m 27 #[.val (.ref a), .val (.ref b), .val (.int (Int32.ofNat o)), .val (.int (Int32.ofNat len)), .val .null, .unset] [])) := (c2.trans (st3 _ (Steps.refl _))).trans (by
    refine XS.iloadN X3.here hexec rfl (hb hbytes d4) rfl ?_
    refine XS.ifYes X3.here hexec rfl (pc0 := 5) rfl (hb hbytes d5) rfl (i0_ne_t (nz32 (by omega) l0)) (by decide) rfl ?_
    exact Steps.refl _)
  obtain ⟨T5, X5, q5, st5⟩ := X3.sget hexec hown (wk W (.fieldLink "java/lang/String" 38 "java/lang/String" "COMPACT_STRINGS" "Z")) s1 (fun _ _ h => by rw [hh3]; exact h) (g := (mkF m 27 #[.val (.ref a), .val (.ref b), .val (.int (Int32.ofNat o)), .val (.int (Int32.ofNat len)), .val .null, .unset] [])) rfl (hb hbytes d27)
  have hh5 := q5.trans hh3
  have c6 : Steps p.tables e below (s₁.setTop (entryFrame m #[.ref a, .ref b, .int (Int32.ofNat o), .int (Int32.ofNat len), .null] 6)) (T5.setTop (mkF m 30 #[.val (.ref a), .val (.ref b), .val (.int (Int32.ofNat o)), .val (.int (Int32.ofNat len)), .val .null, .unset] [.int z])) := c4.trans (st5 _ (Steps.refl _))
  have c7 : Steps p.tables e below (s₁.setTop (entryFrame m #[.ref a, .ref b, .int (Int32.ofNat o), .int (Int32.ofNat len), .null] 6)) (T5.setTop (mkF m 36 #[.val (.ref a), .val (.ref b), .val (.int (Int32.ofNat o)), .val (.int (Int32.ofNat len)), .val .null, .unset] [.int (Int32.ofNat len), .int (Int32.ofNat o), .ref b])) := c6.trans (by
    refine XS.ifNo X5.here hexec rfl (hb hbytes d30) rfl (i0_eq_f hz) ?_
    refine XS.aloadN X5.here hexec rfl (hb hbytes d33) rfl rfl ?_
    refine XS.iloadN X5.here hexec rfl (hb hbytes d34) rfl ?_
    refine XS.iloadN X5.here hexec rfl (hb hbytes d35) rfl ?_
    exact Steps.refl _)
  obtain ⟨v8, T8, X8, E8, g8⟩ := X5.callS hexec (Cmp3.law l b A o len) hown (wks W (staticW "java/lang/String" 177 Cmp3.yN)) (wk W Cmp3.tab) (W := 0) (Nat.le_of_ble_eq_true rfl) (Nat.le_of_ble_eq_true rfl) (Nat.le_refl _) (by show 0 + len ≤ len; omega) (g := (mkF m 36 #[.val (.ref a), .val (.ref b), .val (.int (Int32.ofNat o)), .val (.int (Int32.ofNat len)), .val .null, .unset] [.int (Int32.ofNat len), .int (Int32.ofNat o), .ref b])) rfl (by rw [hml]; rfl) c7 (argsL := [.ref b, .int (Int32.ofNat o), .int (Int32.ofNat len)]) (rest := []) rfl rfl (by show 2 * 0 + 0 ≤ _; decide) (hb hbytes d36) (⟨rfl, hA.mv X5.warmed.alike hh5, l1, l2, hp⟩)
  obtain ⟨e8, z8⟩ := E8
  obtain ⟨rfl, N, n1, n2, n3, n4, n5, n6⟩ := NewArr.mv _ T5 s _ _ hh5.symm (Vm.Alike.refl _) rfl e8
  rw [hh5] at z8
  have hB1 := hB.keep X8.warmed.alike (n6 _ _ hB.1)
  have hne : s.heap.size ≠ a := (Nat.ne_of_lt (Array.getElem?_eq_some_iff.mp hB.1).1).symm
  have c9 : Steps p.tables e below (s₁.setTop (entryFrame m #[.ref a, .ref b, .int (Int32.ofNat o), .int (Int32.ofNat len), .null] 6)) (T8.setTop (mkF m 39 #[.val (.ref a), .val (.ref b), .val (.int (Int32.ofNat o)), .val (.int (Int32.ofNat len)), .val .null, .unset] [.ref s.heap.size])) := g8
  have c10 : Steps p.tables e below (s₁.setTop (entryFrame m #[.ref a, .ref b, .int (Int32.ofNat o), .int (Int32.ofNat len), .null] 6)) (T8.setTop (mkF m 45 #[.val (.ref a), .val (.ref b), .val (.int (Int32.ofNat o)), .val (.int (Int32.ofNat len)), .val .null, .val (.ref s.heap.size)] [.int (Int32.ofNat N.slots.size), .ref s.heap.size, .ref a])) := by
    have hc : Steps p.tables e below (s₁.setTop (entryFrame m #[.ref a, .ref b, .int (Int32.ofNat o), .int (Int32.ofNat len), .null] 6)) (T8.setTop (mkF m 45 #[.val (.ref a), .val (.ref b), .val (.int (Int32.ofNat o)), .val (.int (Int32.ofNat len)), .val .null, .val (.ref s.heap.size)] [.int (Int32.ofNat len), .ref s.heap.size, .ref a])) := c9.trans (by
      refine XS.astore X8.here hexec rfl (hb hbytes d39) rfl rfl rfl ?_
      refine XS.aloadN X8.here hexec rfl (hb hbytes d41) rfl rfl ?_
      refine XS.aload X8.here hexec rfl (hb hbytes d42) rfl rfl ?_
      refine XS.iloadN X8.here hexec rfl (hb hbytes d44) rfl ?_
      exact Steps.refl _)
    rw [n4]; exact hc
  obtain ⟨v11, T11, X11, E11, g11⟩ := X8.callS hexec (CodL.law l s.heap.size N) hown (wks W (staticW "java/lang/String" 47 CodL.yN)) (wk W CodL.tab) (W := 1) (Nat.le_of_ble_eq_true rfl) (Nat.le_of_ble_eq_true rfl) (Nat.le_refl _) (by show 0 + len + 0 ≤ len; omega) (g := (mkF m 45 #[.val (.ref a), .val (.ref b), .val (.int (Int32.ofNat o)), .val (.int (Int32.ofNat len)), .val .null, .val (.ref s.heap.size)] [.int (Int32.ofNat N.slots.size), .ref s.heap.size, .ref a])) rfl (by rw [hml]; rfl) c10 (argsL := [.ref s.heap.size, .int (Int32.ofNat N.slots.size)]) (rest := [.ref a]) rfl rfl (by show 2 * 0 + (1 + 0) ≤ _; decide) (hb hbytes d45) (⟨rfl, n1⟩)
  obtain ⟨rfl, q11⟩ := E11
  have hB11 := hB1.mv (X8.warmed.alike.symm.trans X11.warmed.alike) q11
  have c12 : Steps p.tables e below (s₁.setTop (entryFrame m #[.ref a, .ref b, .int (Int32.ofNat o), .int (Int32.ofNat len), .null] 6)) (T11.setTop (mkF m 48 #[.val (.ref a), .val (.ref b), .val (.int (Int32.ofNat o)), .val (.int (Int32.ofNat len)), .val .null, .val (.ref s.heap.size)] [.int 0, .ref a])) := g11
  obtain ⟨T13, X13, p13, bl13, sl13, st13⟩ := X11.finit hexec hown (wk W (.fieldLink "java/lang/String" 15 "java/lang/String" "coder" "B")) (Or.inr ⟨_, (wk W (.laysFinal "java/lang/String" "java/lang/String" "coder" "B"))⟩) (Or.inl ⟨rfl, hnm⟩) f2 (Or.inl rfl) hB11 (t := .byte) (by decide +kernel) rfl (g := (mkF m 48 #[.val (.ref a), .val (.ref b), .val (.int (Int32.ofNat o)), .val (.int (Int32.ofNat len)), .val .null, .val (.ref s.heap.size)] [.int 0, .ref a])) rfl (rest := []) rfl (hb hbytes d48)
  have c14 : Steps p.tables e below (s₁.setTop (entryFrame m #[.ref a, .ref b, .int (Int32.ofNat o), .int (Int32.ofNat len), .null] 6)) (T13.setTop (mkF m 54 #[.val (.ref a), .val (.ref b), .val (.int (Int32.ofNat o)), .val (.int (Int32.ofNat len)), .val .null, .val (.ref s.heap.size)] [.ref s.heap.size, .ref a])) := (c12.trans (st13 _ (Steps.refl _))).trans (by
    refine XS.aloadN X13.here hexec rfl (hb hbytes d51) rfl rfl ?_
    refine XS.aload X13.here hexec rfl (hb hbytes d52) rfl rfl ?_
    exact Steps.refl _)
  obtain ⟨T15, X15, p15, bl15, sl15, st15⟩ := X13.finit hexec hown (wk W (.fieldLink "java/lang/String" 9 "java/lang/String" "value" "[B")) (Or.inr ⟨_, (wk W (.laysFinal "java/lang/String" "java/lang/String" "value" "[B"))⟩) (Or.inl ⟨rfl, hnm⟩) f1 (Or.inl rfl) bl13 (t := (.array .byte)) (by decide +kernel) rfl (g := (mkF m 54 #[.val (.ref a), .val (.ref b), .val (.int (Int32.ofNat o)), .val (.int (Int32.ofNat len)), .val .null, .val (.ref s.heap.size)] [.ref s.heap.size, .ref a])) rfl (rest := []) rfl (hb hbytes d54)
  have c16 : Steps p.tables e below (s₁.setTop (entryFrame m #[.ref a, .ref b, .int (Int32.ofNat o), .int (Int32.ofNat len), .null] 6)) (T15.setTop (mkF m 57 #[.val (.ref a), .val (.ref b), .val (.int (Int32.ofNat o)), .val (.int (Int32.ofNat len)), .val .null, .val (.ref s.heap.size)] [])) := c14.trans (st15 _ (Steps.refl _))
  have ap := apart (Or.inr ⟨_, (wk W (.laysFinal "java/lang/String" "java/lang/String" "value" "[B"))⟩) (Or.inr ⟨_, (wk W (.laysFinal "java/lang/String" "java/lang/String" "coder" "B"))⟩) f1 f2 (t₁ := .array .byte) (t₂ := .byte) (by decide +kernel) (by decide +kernel) (by decide)
  have al := X8.warmed.alike.symm.trans X15.warmed.alike
  have n7 : T11.heap[s.heap.size]? = some N := by rw [q11]; exact n1.1
  exact ⟨T15, none, _, _, _, X15, by simp, rfl, by omega, (fun _ => rfl), ⟨rfl, _, N, bl15, ((Same.refl D _).set _ (by simp)).set _ (by simp), sl15, (Cell.slots_setSlot_ne _ ap).trans sl13, n1.keep al (p15.other hne (p13.other hne n7)), n2, by rw [al.findClass]; exact n3, n4, n5, fun y c h1 h2 => p15.other h1 (p13.other h1 (by rw [q11]; exact n6 y c h2)), by rw [p15.2.2, p13.2.2, q11]; exact z8⟩, fun fs hl => c16.trans (X15.returnOut hexec hret (hb hbytes d57) hl)⟩
end New4
namespace New1
def yN : MethodName := ⟨"java/lang/String", "<init>", "([C)V"⟩
abbrev yB : ByteArray := jdk_42_method_3_code
theorem d0 : decode yB 0 = .ok (.aload_n 0, 1) := by decide +kernel
theorem d1 : decode yB 1 = .ok (.aload_n 1, 1) := by decide +kernel
theorem d2 : decode yB 2 = .ok (.iconst 0, 1) := by decide +kernel
theorem d3 : decode yB 3 = .ok (.aload_n 1, 1) := by decide +kernel
theorem d4 : decode yB 4 = .ok (.arraylength, 1) := by decide +kernel
theorem d5 : decode yB 5 = .ok (.aconst_null, 1) := by decide +kernel
theorem d6 : decode yB 6 = .ok (.invokespecial 27, 3) := by decide +kernel
theorem d9 : decode yB 9 = .ok (.return_, 1) := by decide +kernel
def site : List Cond := [New4.tab] ++ initW "java/lang/String" 27 New4.yN
def tab : Cond := tabOf yN yB 2 none site
def P (a : Addr) (D : Cell) (fV fC : Field) (b : Addr) (A : Cell) (z : Int32) (args : Array Value) (s : State) : Prop := args = #[.ref a, .ref b] ∧ Blank "java/lang/String" a D s ∧ Found "java/lang/String" "value" "[B" fV s ∧ Found "java/lang/String" "coder" "B" fC s ∧ Ch b A s ∧ StaticIs s "java/lang/String" "COMPACT_STRINGS" "Z" (.int z) ∧ ¬ z = 0 ∧ 0 < A.slots.size ∧ A.slots.size ≤ 536870912 ∧ ∀ i, i < A.slots.size → ¬ 255 < cv A i
def E (a : Addr) (D : Cell) (fV fC : Field) (A : Cell) (r : Option Value) (s u : State) : Prop := Got a D fV fC A 0 A.slots.size r s u
/-- new String(chars), not empty, no char above 255: a Latin-1 String of their low bytes -/
theorem law (l : Launch) (a : Addr) (D : Cell) (fV fC : Field) (b : Addr) (A : Cell) (z : Int32) : Law l yN 2 1 3 52 yB 2 none site (P a D fV fC b A z) (E a D fV fC A) [⟨a, fC.slot⟩, ⟨a, fV.slot⟩] 1 A.slots.size := by
  refine Law.of_walk (plainFor_of_name (by decide +kernel)) (by decide +kernel) (by decide +kernel) (by decide) (fun _ _ h => by rw [h.1]; rfl) (fun _ U U' hal hh h => ⟨h.1, h.2.1.mv hal hh, h.2.2.1.al hal, h.2.2.2.1.al hal, h.2.2.2.2.1.mv hal hh, h.2.2.2.2.2.1.there hal hh, h.2.2.2.2.2.2⟩) (fun r U U' V V' h1 hal h2 h => Got.mv r U U' V V' h1 hal h2 h) ?_
  intro p e s m args below meth c s₁ X0 hexec hbytes hml hret hlk hnm hown hh0 W hP
  obtain ⟨rfl, hB, f1, f2, hA, s1, hz, l0, l2, hp⟩ := hP
  have c1 : Steps p.tables e below (s₁.setTop (entryFrame m #[.ref a, .ref b] 2)) (s₁.setTop (mkF m 0 #[.val (.ref a), .val (.ref b)] [])) := entry rfl
  have c2 : Steps p.tables e below (s₁.setTop (entryFrame m #[.ref a, .ref b] 2)) (s₁.setTop (mkF m 6 #[.val (.ref a), .val (.ref b)] [.null, .int (Int32.ofNat A.slots.size), .int 0, .ref b, .ref a])) := c1.trans (by
    refine XS.aloadN X0.here hexec rfl (hb hbytes d0) rfl rfl ?_
    refine XS.aloadN X0.here hexec rfl (hb hbytes d1) rfl rfl ?_
    refine iconstV X0.here hexec rfl 0 (hb hbytes d2) (by decide) ?_
    refine XS.aloadN X0.here hexec rfl (hb hbytes d3) rfl rfl ?_
    refine X0.alen hexec (hA.1.mv X0.warmed.alike hh0) rfl rfl (hb hbytes d4) ?_
    refine XS.aconstNull X0.here hexec rfl (hb hbytes d5) ?_
    exact Steps.refl _)
  obtain ⟨v3, T3, X3, E3, g3⟩ := X0.callN hexec (New4.law l a D fV fC b A z 0 A.slots.size) rfl hown (wks W (initW "java/lang/String" 27 New4.yN)) (W New4.tab (by simp only [site, List.mem_cons, List.mem_append, true_or, or_true])) (W := 0) (Nat.le_of_ble_eq_true rfl) (Nat.le_of_ble_eq_true rfl) (Nat.le_refl _) (by show 0 + A.slots.size ≤ A.slots.size; omega) (g := (mkF m 6 #[.val (.ref a), .val (.ref b)] [.null, .int (Int32.ofNat A.slots.size), .int (Int32.ofNat 0), .ref b, .ref a])) rfl (by rw [hml]; rfl) c2 (argsL := [.ref b, .int (Int32.ofNat 0), .int (Int32.ofNat A.slots.size), .null]) (rest := []) rfl rfl (by show 2 * 0 + 0 ≤ _; decide) (hb hbytes d6) (⟨rfl, hB.mv X0.warmed.alike hh0, f1.al X0.warmed.alike, f2.al X0.warmed.alike, hA.mv X0.warmed.alike hh0, s1.there X0.warmed.alike hh0, hz, l0, by omega, l2, fun i hi => by rw [Nat.zero_add]; exact hp i hi⟩)
  have e0 := Got.mv _ s₁ s _ _ hh0.symm (Vm.Alike.refl _) rfl E3
  obtain rfl := e0.1
  have c4 : Steps p.tables e below (s₁.setTop (entryFrame m #[.ref a, .ref b] 2)) (T3.setTop (mkF m 9 #[.val (.ref a), .val (.ref b)] [])) := g3
  exact ⟨T3, none, _, _, _, X3, by simp, rfl, by omega, (fun _ => rfl), e0, fun fs hl => c4.trans (X3.returnOut hexec hret (hb hbytes d9) hl)⟩
theorem pays {l : Launch} {R : Room} {p : Program} {e : Env} {below : List Frame} {s : State} {sargs : Array Value} {len W : Nat} (a : Addr) (D : Cell) (fV fC : Field) (b : Addr) (A : Cell) (z : Int32) (htab : tab.before sargs s = true) (hfr : 4 ≤ R.frames) (hlo : W + 65 ≤ R.locals) :
    Back l R p e below s sargs yN len W (fun A₁ a₁ => A₁.cells + 1 ≤ R.cells ∧ A₁.slots + A.slots.size ≤ R.slots ∧ P a D fV fC b A z a₁ A₁.U) (fun A₁ _ v₁ B₁ => E a D fV fC A v₁ A₁.U B₁.U ∧ B₁.locs = A₁.locs ++ [⟨a, fC.slot⟩, ⟨a, fV.slot⟩] ∧ B₁.cells = A₁.cells + 1 ∧ B₁.slots = A₁.slots + A.slots.size) :=
  (law l a D fV fC b A z).pays htab hfr (by omega)
end New1
end StrChars
namespace StrChars.Road
open Jvm Sem ClassFile Op Lib Jvm.Stand Jvm.Free Jvm.Free.XT
open Jvm.Lib.Cold (StaticIs)
abbrev ST : String := "java/lang/String"
/-- every table word that New1's law asks, flat -/
abbrev words : List Jvm.Cond := [.code New1.yN New1.yB 2 none, .initialized ST, .methodLink ST 27 New4.yN, .instanceMethod New4.yN,
  .code New4.yN New4.yB 6 none, .fieldLink ST 38 ST "COMPACT_STRINGS" "Z", .laysFinal ST ST "value" "[B", .fieldLink ST 9 ST "value" "[B", .laysFinal ST ST "coder" "B", .fieldLink ST 15 ST "coder" "B",
  .methodLink ST 1 Lib.objectInit, .instanceMethod Lib.objectInit, .code Lib.objectInit ⟨#[0xb1]⟩ 1 none, .methodLink ST 177 Cmp3.yN, .static Cmp3.yN, .methodLink ST 47 CodL.yN, .static CodL.yN,
  .code Cmp3.yN Cmp3.yB 6 (some (.array .byte)), .initialized U16, .arrayClass .byte, .methodLink U16 115 Cmp5.yN, .static Cmp5.yN, .code Cmp5.yN Cmp5.yB 7 (some .int), .code CodL.yN CodL.yB 2 (some .byte)]
theorem tab_of {a : Array Value} {s : State} (h : ∀ w ∈ words, w.before a s = true) : New1.tab.before a s = true := by
  have h5 : Cmp5.tab.before a s = true := unparts (wk h (.code Cmp5.yN Cmp5.yB 7 (some .int))) (wks h (.initialized Cmp5.yN.cls :: Cmp5.site))
  have hc : CodL.tab.before a s = true := unparts (wk h (.code CodL.yN CodL.yB 2 (some .byte))) (wks h (.initialized CodL.yN.cls :: CodL.site))
  have q5 : ∀ w ∈ Cmp5.tab :: words, w.before a s = true := fun w hw => (List.mem_cons.mp hw).elim (fun e => e ▸ h5) (h w)
  have h3 : Cmp3.tab.before a s = true := unparts (wk q5 (.code Cmp3.yN Cmp3.yB 6 (some (.array .byte)))) (wks q5 (.initialized Cmp3.yN.cls :: Cmp3.site))
  have q3 : ∀ w ∈ Cmp3.tab :: CodL.tab :: words, w.before a s = true := fun w hw => (List.mem_cons.mp hw).elim (fun e => e ▸ h3) fun hw => (List.mem_cons.mp hw).elim (fun e => e ▸ hc) (h w)
  have h4 : New4.tab.before a s = true := unparts (wk q3 (.code New4.yN New4.yB 6 none)) (wks q3 (.initialized New4.yN.cls :: New4.site))
  have q4 : ∀ w ∈ New4.tab :: words, w.before a s = true := fun w hw => (List.mem_cons.mp hw).elim (fun e => e ▸ h4) (h w)
  exact unparts (wk q4 (.code New1.yN New1.yB 2 none)) (wks q4 (.initialized New1.yN.cls :: New1.site))
/-- the words ride from the start Z to the walk's own state -/
theorem moved {Z s : State} {a0 args : Array Value} (hZ : Z.Warmed39 s.vm) (hw : ∀ d ∈ words, d.before a0 Z = true) : ∀ d ∈ words, d.before args s = true := fun d hd => by
  have q := hw d hd
  have t : ∀ d ∈ words, d = .arrayClass .byte ∨ (d.onTables && d.keepsFace) = true := by decide +kernel
  rcases t d hd with rfl | t
  · exact RoadKit.mvA hZ q
  · exact RoadKit.mv hZ q t
/-- WHAT COMES BACK, over the tables of the start Z: h the heap at the call, h' behind it -/
def Q (Z : State) (x : Addr) (A : Cell) (h : Heap) (v : Option Value) (h' : Heap) (L : List Loc) : Prop := v = none ∧ (∀ y ∈ L, y.base = x) ∧ RoadKit.Keep h h' [x] ∧ h'.size = h.size + 1 ∧ RoadKit.Exa Z h' x ST ∧ RoadKit.Fld Z h' x ST "value" "[B" (.ref h.size) ∧ RoadKit.Fld Z h' x ST "coder" "B" (.int 0) ∧
  (∃ V : Cell, RoadKit.Arr Z h' h.size V .byte ∧ V.vm = .none ∧ Z.vm.findClass "[B" = some V.cls ∧ V.slots.size = A.slots.size ∧ ∀ j, j < A.slots.size → V.slots[j]? = some (.int (lo8 (cv A j)))) ∧
  ∀ (O n d : String) (w : Value), RoadKit.Fld Z h x O n d w → RoadKit.slotOf Z O n d ≠ RoadKit.slotOf Z ST "value" "[B" → RoadKit.slotOf Z O n d ≠ RoadKit.slotOf Z ST "coder" "B" → RoadKit.Fld Z h' x O n d w
/-- **new String(chars) AT A CALL, IN THE ROAD'S FORM**: for specialBack behind newO: x the fresh String, b the char[] with the cell A -/
theorem back {p : Program} {l : Launch} {e : Env} {R : Room} {s : State} {args : Array Value} {below : List Frame} {len W : Nat} {Z : State} {a0 : Array Value} {h : Heap} (hZ : Z.Warmed39 s.vm) (hw : ∀ d ∈ words, d.before a0 Z = true) {kI : Nat} (wi : (Jvm.Cond.instantiable ST kI).before a0 Z = true)
    {x b : Addr} {A : Cell} {z : Int32} {v0 c0 : Value} (E : RoadKit.Exa Z h x ST) (V : RoadKit.Fld Z h x ST "value" "[B" v0) (C : RoadKit.Fld Z h x ST "coder" "B" c0) (K : RoadKit.Arr Z h b A .char) (hty : Typed .char A) (S : RoadKit.Sta Z h ST "COMPACT_STRINGS" "Z" (.int z)) (hz : ¬ z = 0)
    (l0 : 0 < A.slots.size) (l2 : A.slots.size ≤ 536870912) (hp : ∀ i, i < A.slots.size → ¬ 255 < cv A i) (hfr : 4 ≤ R.frames) (hlo : W + 65 ≤ R.locals) :
    Back l R p e below s args New1.yN len W (fun P a => a = #[.ref x, .ref b] ∧ P.U.heap = h ∧ P.cells + 1 ≤ R.cells ∧ P.slots + A.slots.size ≤ R.slots)
      (fun P _ v B => ∃ L, Q Z x A h v B.U.heap L ∧ B.locs = P.locs ++ L ∧ B.cells = P.cells + 1 ∧ B.slots = P.slots + A.slots.size) := by
  intro m meth c P g ig mk a X hg hsize hdg hW hn hp'
  obtain ⟨rfl, rfl, r1, r2⟩ := hp'
  have al : Z.vm.Alike P.U.vm := hZ.alike.trans X.warmed.alike
  obtain ⟨D, cfV, kV, iV, fV, hD, gV, stV, knV, obV, asV, slV⟩ := id V
  obtain ⟨D', cfC, kC, iC, fC, hD', gC, stC, -, -, asC, slC⟩ := id C
  cases hD.symm.trans hD'
  obtain ⟨D2, kD, e1, e2, e3, e4, e5⟩ := id E
  cases hD.symm.trans e1
  obtain ⟨c2, k2, i1, i2, i3, -⟩ := Cond.instantiable_spec wi
  cases e2.symm.trans i1
  cases e3.symm.trans i2
  obtain ⟨kU, u1, u2⟩ := al.2.2 _ _ e3
  have hB : Blank ST x D P.U := ⟨hD, ⟨knV, fun q hq => by rw [hq] at obV; cases obV⟩, by rw [al.findClass]; exact e2, kU, u1, by rw [u2]; exact i3, by rw [u2]; exact e5 i3⟩
  have F1 : Found ST "value" "[B" fV P.U := ⟨SBG.found_only al ⟨cfV, kV, iV, gV⟩, stV⟩
  have F2 : Found ST "coder" "B" fC P.U := ⟨SBG.found_only al ⟨cfC, kC, iC, gC⟩, stC⟩
  have hA : Ch b A P.U := ⟨⟨K.1, State.isArrayOf_alike al K.2.1, K.2.2, by omega⟩, hty⟩
  have hS : StaticIs P.U ST "COMPACT_STRINGS" "Z" (.int z) := by
    obtain ⟨cfS, iS, kS, fS, st, cS, t1, t2, t3, t4, t5, t6, t7⟩ := S
    exact StaticIs.there (s := { Z with heap := P.U.heap }) ⟨cfS, iS, kS, fS, st, cS, t1, t2, t3, t4, t5, (fun q => by rw [q] at t6; cases t6), t7⟩ al rfl
  obtain ⟨v, B, X', ⟨⟨hv, E', V', q1, q2, q3, q4, q5, q6, q7, q8, q9, q10, q11⟩, hl, hc, hs⟩, st⟩ := New1.pays x D fV fC b A z (tab_of (moved hZ hw)) hfr hlo m meth c P g ig mk _ X hg hsize hdg hW hn ⟨r1, r2, rfl, hB, F1, F2, hA, hS, hz, l0, l2, hp⟩
  have al' : Z.vm.Alike B.U.vm := hZ.alike.trans X'.warmed.alike
  have hsz : E'.slots.size = D.slots.size := by
    obtain ⟨-, -, -, kB, w1, w2, w3⟩ := q1
    obtain ⟨kB', y1, y2⟩ := al'.2.2 _ _ e3
    rw [q2.2.1] at w1
    cases w1.symm.trans y1
    rw [w3, e5 i3, y2]
  refine ⟨v, B, X', ⟨_, ⟨hv, ?_, ⟨by omega, fun y cy hy hn' => q10 y cy (by simpa using hn') hy, fun y cy hy => ?_⟩, q11, ⟨E', _, q1.1, by rw [q2.2.1]; exact e2, by rw [q2.2.1]; exact e3, by rw [q2.1]; exact obV, fun _ => by rw [hsz]; exact e5 i3⟩,
    ⟨E', cfV, kV, iV, fV, q1.1, gV, stV, by rw [q2.1]; exact knV, by rw [q2.1]; exact obV, by rw [q2.2.1]; exact asV, q3⟩, ⟨E', cfC, kC, iC, fC, q1.1, gC, stC, by rw [q2.1]; exact knV, by rw [q2.1]; exact obV, by rw [q2.2.1]; exact asC, q4⟩,
    ⟨V', ⟨q5.1, State.isArrayOf_alike al'.symm q5.2.1, q5.2.2.1⟩, q6, by rw [← al'.findClass]; exact q7, q8, fun j hj => by have := q9 j hj; rwa [Nat.zero_add] at this⟩, fun O n d w F n1 n2 => ?_⟩, hl, hc, hs⟩, st⟩
  · intro y hy
    simp only [List.mem_cons, List.not_mem_nil, or_false] at hy
    rcases hy with rfl | rfl <;> rfl
  · by_cases q : y = x
    · subst q
      cases hD.symm.trans hy
      exact ⟨E', q1.1, q2.2.1, q2.1, hsz⟩
    · exact ⟨cy, q10 y cy q hy, rfl, rfl, rfl⟩
  · obtain ⟨D3, cf, k, i, f, g1, g2, g3, g4, g5, g6, g7⟩ := F
    cases hD.symm.trans g1
    simp only [RoadKit.slotOf, g2, gV, gC, Option.map_some, Option.getD_some] at n1 n2
    exact ⟨E', cf, k, i, f, q1.1, g2, g3, by rw [q2.1]; exact g4, by rw [q2.1]; exact g5, by rw [q2.2.1]; exact g6, by rw [q2.2.2 f.slot (by simp [n1, n2])]; exact g7⟩
end StrChars.Road
namespace StrChars.Road
open Jvm Sem ClassFile Op Lib Jvm.Stand Jvm.Free Jvm.Free.XT
/-- WHAT COMES BACK, the byte[] as a list of values -/
def QA (Z : State) (x : Addr) (zn : Int32) (cs : List Int32) (h : Heap) (v : Option Value) (h' : Heap) (L : List Loc) : Prop := v = none ∧ (∀ y ∈ L, y.base = x) ∧ RoadKit.Keep h h' [x] ∧ h'.size = h.size + 1 ∧ RoadKit.Exa Z h' x ST ∧ RoadKit.Fld Z h' x ST "value" "[B" (.ref h.size) ∧ RoadKit.Fld Z h' x ST "coder" "B" (.int 0) ∧
  (∃ kb, Z.vm.findClass "[B" = some kb ∧ RoadKit.Arv Z h' h.size kb .byte zn (cs.map fun c => .int (lo8 c)) (.int 0)) ∧
  ∀ (O n d : String) (w : Value), RoadKit.Fld Z h x O n d w → RoadKit.slotOf Z O n d ≠ RoadKit.slotOf Z ST "value" "[B" → RoadKit.slotOf Z O n d ≠ RoadKit.slotOf Z ST "coder" "B" → RoadKit.Fld Z h' x O n d w
/-- **new String(chars) AT A CALL, THE ARRAYS AS LISTS**: the char[] at b holds cs, not empty, no char above 255 -/
theorem backArv {p : Program} {l : Launch} {e : Env} {R : Room} {s : State} {args : Array Value} {below : List Frame} {len W : Nat} {Z : State} {a0 : Array Value} {h : Heap} (hZ : Z.Warmed39 s.vm) (hw : ∀ d ∈ words, d.before a0 Z = true) {kI : Nat} (wi : (Jvm.Cond.instantiable ST kI).before a0 Z = true)
    {x b : Addr} {k : ClassId} {zn z : Int32} {cs : List Int32} {dv v0 c0 : Value} (E : RoadKit.Exa Z h x ST) (V : RoadKit.Fld Z h x ST "value" "[B" v0) (C : RoadKit.Fld Z h x ST "coder" "B" c0) (K : RoadKit.Arv Z h b k .char zn (cs.map Value.int) dv) (S : RoadKit.Sta Z h ST "COMPACT_STRINGS" "Z" (.int z)) (hz : ¬ z = 0)
    (hlen : zn.toNatClampNeg = cs.length) (h0 : 0 < cs.length) (hbig : cs.length ≤ 536870912) (hall : ∀ c ∈ cs, ¬ 255 < c) (hfr : 4 ≤ R.frames) (hlo : W + 65 ≤ R.locals) :
    Back l R p e below s args New1.yN len W (fun P a => a = #[.ref x, .ref b] ∧ P.U.heap = h ∧ P.cells + 1 ≤ R.cells ∧ P.slots + cs.length ≤ R.slots)
      (fun P _ v B => ∃ L, QA Z x zn cs h v B.U.heap L ∧ B.locs = P.locs ++ L ∧ B.cells = P.cells + 1 ∧ B.slots = P.slots + cs.length) := by
  obtain ⟨A, K1, K2, K3, K4, K5, K6⟩ := K
  have e : A.slots.size = cs.length := K3.trans hlen
  have hat : ∀ (i : Nat) (hi : i < cs.length), A.slots[i]? = some (.int cs[i]) := fun i hi => by rw [K5 i (by omega)]; simp [List.getD_eq_getElem?_getD, hi]
  have hcv : ∀ (i : Nat) (hi : i < cs.length), cv A i = cs[i] := fun i hi => by unfold cv; rw [hat i hi]
  have hty : Typed .char A := fun i v hv => by
    have hi : i < A.slots.size := (Array.getElem?_eq_some_iff.mp hv).1
    have q := K5 i hi
    rw [hv] at q
    rw [Option.some.inj q]
    exact K6 i hi
  refine Back.mono (back hZ hw wi E V C K1 hty S hz (by omega) (by omega) (fun i hi => by rw [hcv i (by omega)]; exact hall _ (List.getElem_mem _)) hfr hlo) (fun P a hp => ⟨hp.1, hp.2.1, hp.2.2.1, by rw [e]; exact hp.2.2.2⟩) (fun P a v B hp hq => ?_)
  obtain ⟨L, ⟨q1, q2, q3, q4, q5, q6, q7, ⟨V', v1, v2, v3, v4, v5⟩, q9⟩, hl, hc, hs⟩ := hq
  refine ⟨L, ⟨q1, q2, q3, q4, q5, q6, q7, ⟨V'.cls, v3, V', v1, rfl, by rw [v4, e, hlen], K4, fun i hi => ?_, fun i hi => ?_⟩, q9⟩, hl, hc, by rw [hs, e]⟩
  · have hi' : i < cs.length := by omega
    rw [v5 i (by omega), hcv i hi']; simp [List.getD_eq_getElem?_getD, hi']
  · have hi' : i < cs.length := by omega
    simp only [List.getD_eq_getElem?_getD, List.getElem?_map, List.getElem?_eq_getElem hi', Option.map_some, Option.getD_some]
    exact fits_lo8 _
end StrChars.Road
namespace StrChars.Road
open Jvm Sem ClassFile Op Lib Jvm.Stand Jvm.Free Jvm.Free.XT
/-- WHAT COMES BACK, in the writer's own shape -/
def QV (Z : State) (x : Addr) (N : Int32) (bs : List Int32) (h : Heap) (n0 : Nat) (v : Option Value) (h' : Heap) (L : List Loc) : Prop := v = none ∧ RoadKit.Fr n0 L ∧ RoadKit.Keep h h' [x] ∧ RoadKit.Exa Z h' x ST ∧ RoadKit.Fld Z h' x ST "coder" "B" (.int 0) ∧
  ∃ (t : Addr) (kb : ClassId), n0 ≤ t ∧ h.size ≤ t ∧ ¬ t = x ∧ RoadKit.Fld Z h' x ST "value" "[B" (.ref t) ∧ RoadKit.Arv Z h' t kb .byte N (bs.map Value.int) (.int 0)
/-- **new String(chars) AT A CALL, FOR THE WRITER**: a char[] of n known ints, each 0 to 255 -/
theorem backV {p : Program} {l : Launch} {e : Env} {R : Room} {s : State} {args : Array Value} {below : List Frame} {len W : Nat} {Z : State} {a0 : Array Value} {h : Heap} (hZ : Z.Warmed39 s.vm) (hw : ∀ d ∈ words, d.before a0 Z = true) {kI : Nat} (wi : (Jvm.Cond.instantiable ST kI).before a0 Z = true)
    {x b : Addr} {kC : ClassId} {cs bs : List Int32} {d v0 c0 : Value} {z N : Int32} {n n0 : Nat} (hx0 : n0 ≤ x) (hh0 : n0 ≤ h.size) (E : RoadKit.Exa Z h x ST) (V : RoadKit.Fld Z h x ST "value" "[B" v0) (C : RoadKit.Fld Z h x ST "coder" "B" c0) (K : RoadKit.Arv Z h b kC .char N (cs.map Value.int) d) (S : RoadKit.Sta Z h ST "COMPACT_STRINGS" "Z" (.int z)) (hz : ¬ z = 0)
    (hn : cs.length = n) (hN : N = Int32.ofNat n) (l0 : 0 < n) (l2 : n ≤ 4000) (hp : ∀ c ∈ cs, ¬ c < 0 ∧ ¬ (255 : Int32) < c) (hb : bs = cs.map (fun c => c.toInt8.toInt32)) (hfr : 4 ≤ R.frames) (hlo : W + 65 ≤ R.locals) :
    Back l R p e below s args (⟨"java/lang/String", "<init>", "([C)V"⟩ : MethodName) len W (fun P a => a = #[.ref x, .ref b] ∧ P.U.heap = h ∧ P.cells + 1 ≤ R.cells ∧ P.slots + n ≤ R.slots)
      (fun P _ v B => ∃ L, QV Z x N bs h n0 v B.U.heap L ∧ B.locs = P.locs ++ L ∧ B.cells = P.cells + 1 ∧ B.slots = P.slots + n) := by
  subst hn hN hb
  refine Back.mono (backArv hZ hw wi E V C K S hz (n32 (by omega)) l0 (by omega) (fun c hc => (hp c hc).2) hfr hlo) (fun P a hp => hp) (fun P a v B hp hq => ?_)
  obtain ⟨L, ⟨q1, q2, q3, q4, q5, q6, q7, ⟨kb, v1, v2⟩, q9⟩, hl, hc, hs⟩ := hq
  exact ⟨L, ⟨q1, fun y hy => by rw [q2 y hy]; exact hx0, q3, q5, q7, h.size, kb, hh0, Nat.le_refl _, Nat.ne_of_gt E.lt, q6, by rw [List.map_map]; exact v2⟩, hl, hc, hs⟩
end StrChars.Road
end Jvm.Pilot.@@N@@

namespace Jvm.Pilot.@@N@@
open Jvm Jvm.ClassFile Sem Op Lib Jvm.Free Jvm.Stand Jvm.LawKit Jvm.RoadKit Bundle Jvm.Pilot.@@N@@.Jvm.D
/-! A walk by continuations: own_Go says that from here the body runs to an end that P allows. -/
def own_Go (p : Program) (e : Env) (below : List Frame) (P : Outcome → State → Prop) (T : State) (g : JFrame) : Prop :=
  ∃ s₂ o, Steps p.tables e below (T.setTop g) s₂ ∧ s₂.status = .running ∧ Ended s₂ below o ∧ P o s₂
abbrev own_End (s : State) (Q : Option Value → Heap → List Loc → Prop) (C S : Nat) : Outcome → State → Prop := fun o s₂ => ∃ v L, o = .returned v ∧ Q v s₂.heap L ∧ FrameEnd s o s₂ L C S
theorem own_pc {m : MethodId} {pc : Nat} {Ls : Array Slot} {st : List Value} {off : Int} (h : 0 ≤ (pc : Int) + off) : 0 ≤ ((mkF m pc Ls st).pc : Int) + off := h
section Own
variable {p : Program} {l : Launch} {e : Env} {R : Room} {s : State} {m : MethodId} {args : Array Value} {below : List Frame} {meth : Method} {c : Code} {T T' : State} {locs : List Loc} {cells slots : Nat} {P : Outcome → State → Prop} {g g' : JFrame} {Q : Option Value → Heap → List Loc → Prop} {C S : Nat}
theorem own_st (h : ∀ t, Steps p.tables e below (T'.setTop g') t → Steps p.tables e below (T.setTop g) t) (k : own_Go p e below P T' g') : own_Go p e below P T g := by
  obtain ⟨s₂, o, h1, r⟩ := k
  exact ⟨s₂, o, h _ h1, r⟩
theorem own_entry (q : g = g') (k : own_Go p e below P T g') : ∃ s₂ o, Steps p.tables e below (T.setTop g) s₂ ∧ s₂.status = .running ∧ Ended s₂ below o ∧ P o s₂ := by
  subst q
  exact k
theorem own_join {α : Type} {F : α → Prop} {g' : α → JFrame} {T' : State} (k : ∀ b, F b → own_Go p e below P T' (g' b)) (j : (∀ b, F b → own_Go p e below P T' (g' b)) → own_Go p e below P T g) : own_Go p e below P T g := j k
theorem own_leave (X : Stand p l e R s m args below meth c T locs cells slots) (hlk : meth.locks = false) {v : Option Value} (hv : meth.sig.returnType = none → v = none)
    (k : ∀ fs, (∀ (f : JFrame) (acts : List Action), f.method = m → f.locked = none → f.entered = [] → (doReturn e (T.setTop f) acts v).1 = T.setFrames fs) → Steps p.tables e below (T.setTop g) (T.setFrames fs))
    (hQ : Q v T.heap locs) (hC : cells ≤ C) (hS : slots ≤ S) : own_Go p e below (own_End s Q C S) T g := by
  obtain ⟨fs, hr, hrun, hended, hW, hsame⟩ := X.leave hv hlk
  exact ⟨_, _, k fs hr, hrun, hended, _, _, rfl, hQ, ⟨_, rfl⟩, hW, hsame.mono hC hS⟩
theorem own_retN (X : Stand p l e R s m args below meth c T locs cells slots) (hx : p.tables.exec = Jvm.exec) (hlk : meth.locks = false) {pc : Nat} {Ls : Array Slot} {z : Int32} {t : FieldType} {rest : List Value} (hret : meth.sig.returnType = some t) (ht : t = .boolean ∨ t = .byte ∨ t = .char ∨ t = .short)
    (hd : decode c.code pc = .ok (.ireturn, 1)) (hQ : Q (some (.int (nar t z))) T.heap locs) (hC : cells ≤ C) (hS : slots ≤ S) : own_Go p e below (own_End s Q C S) T (mkF m pc Ls (.int z :: rest)) :=
  own_leave X hlk (fun h => by rw [hret] at h; cases h) (fun fs hr => retN X hx hret ht hd hr) hQ hC hS
theorem own_retI (X : Stand p l e R s m args below meth c T locs cells slots) (hx : p.tables.exec = Jvm.exec) (hlk : meth.locks = false) {pc : Nat} {Ls : Array Slot} {z : Int32} {rest : List Value} (hret : meth.sig.returnType = some .int)
    (hd : decode c.code pc = .ok (.ireturn, 1)) (hQ : Q (some (.int z)) T.heap locs) (hC : cells ≤ C) (hS : slots ≤ S) : own_Go p e below (own_End s Q C S) T (mkF m pc Ls (.int z :: rest)) :=
  own_leave X hlk (fun h => by rw [hret] at h; cases h) (fun fs hr => retOut X hx hret rfl (Or.inl ⟨rfl, Or.inl rfl, z, rfl⟩) hd hr) hQ hC hS
theorem own_retJ (X : Stand p l e R s m args below meth c T locs cells slots) (hx : p.tables.exec = Jvm.exec) (hlk : meth.locks = false) {pc : Nat} {Ls : Array Slot} {z : Int64} {rest : List Value} (hret : meth.sig.returnType = some .long)
    (hd : decode c.code pc = .ok (.lreturn, 1)) (hQ : Q (some (.long z)) T.heap locs) (hC : cells ≤ C) (hS : slots ≤ S) : own_Go p e below (own_End s Q C S) T (mkF m pc Ls (.long z :: rest)) :=
  own_leave X hlk (fun h => by rw [hret] at h; cases h) (fun fs hr => retOut X hx hret rfl (Or.inr (Or.inl ⟨rfl, rfl, z, rfl⟩)) hd hr) hQ hC hS
theorem own_narrow_ref {t : FieldType} {w : Value} (ht : t.isReference = true) : narrow t w = w := by cases t <;> first | rfl | cases ht
theorem own_retA (X : Stand p l e R s m args below meth c T locs cells slots) (hx : p.tables.exec = Jvm.exec) (hlk : meth.locks = false) {pc : Nat} {Ls : Array Slot} {w : Value} {t : FieldType} {rest : List Value} (hret : meth.sig.returnType = some t) (ht : t.isReference = true) (hw : w.isRef = true)
    (hd : decode c.code pc = .ok (.areturn, 1)) (hQ : Q (some w) T.heap locs) (hC : cells ≤ C) (hS : slots ≤ S) : own_Go p e below (own_End s Q C S) T (mkF m pc Ls (w :: rest)) :=
  own_leave X hlk (fun h => by rw [hret] at h; cases h) (fun fs hr => retOut X hx hret (own_narrow_ref ht) (Or.inr (Or.inr (Or.inr (Or.inr ⟨rfl, ht, hw⟩)))) hd hr) hQ hC hS
theorem own_ret0 (X : Stand p l e R s m args below meth c T locs cells slots) (hx : p.tables.exec = Jvm.exec) (hlk : meth.locks = false) {pc : Nat} {Ls : Array Slot} (hret : meth.sig.returnType = none)
    (hd : decode c.code pc = .ok (.return_, 1)) (hQ : Q none T.heap locs) (hC : cells ≤ C) (hS : slots ≤ S) : own_Go p e below (own_End s Q C S) T (mkF m pc Ls []) :=
  own_leave X hlk (fun _ => rfl) (fun fs hr => X.returnOut hx hret hd hr) hQ hC hS
theorem own_callS (X : Stand p l e R s m args below meth c T locs cells slots) (hx : p.tables.exec = Jvm.exec) {own : String} {index : Nat} {y : MethodName} {bytes : ByteArray} {maxL : Nat} {ret : Option FieldType}
    (hown : s.vm.findClass own = some m.cls) (hlink : (Cond.methodLink own index y).before args s = true) (hstat : (Cond.static y).before args s = true) (hinit : (Cond.initialized y.cls).before args s = true)
    (hcode : (Cond.code y bytes maxL ret).before args s = true) (hy : y.cls ≠ "java/lang/invoke/MethodHandle" ∧ y.cls ≠ "java/lang/invoke/VarHandle")
    {W rc rs : Nat} {as' : Array Value} {h : Heap} {Qc : Option Value → Heap → List Loc → Prop}
    (hK : Back l R p e below s args y 3 W (fun A a => a = as' ∧ A.U.heap = h ∧ A.cells + rc ≤ R.cells ∧ A.slots + rs ≤ R.slots) (fun A _ v B => ∃ L, Qc v B.U.heap L ∧ B.locs = A.locs ++ L ∧ B.cells = A.cells + rc ∧ B.slots = A.slots + rs))
    (hg : g.method = m) (hsize : g.locals.size = c.maxLocals) {argsL rest : List Value} (hlen : ∀ sig, parseMethodDescriptor y.desc = some sig → argsL.length = sig.parameters.length)
    (hstack : g.stack = argsL.reverse ++ rest) (hW : 2 * g.monitorRoom + (rest.map fun v => v.category).sum ≤ W) (hdg : decode c.code g.pc = .ok (.invokestatic index, 3))
    (ha : argsL.toArray = as') (eT : T.heap = h) (hc : cells + rc ≤ R.cells) (hs : slots + rs ≤ R.slots)
    (k : ∀ v T' L, Stand p l e R s m args below meth c T' (locs ++ L) (cells + rc) (slots + rs) → Qc v T'.heap L → own_Go p e below P T' { g with pc := g.pc + 3, stack := v.toList ++ rest }) : own_Go p e below P T g := by
  obtain ⟨v, vm₁, ⟨T', L', k', n'⟩, -, X', ⟨L, hQ, l1, y1, z1⟩, st⟩ := Jvm.LawKit.callS X hx hown hlink hstat hinit hcode hy hK hg hsize hlen hstack hW hdg (fun _ _ => ⟨ha, eT, hc, hs⟩)
  dsimp only [Pt.U, Pt.locs, Pt.cells, Pt.slots] at X' l1 y1 z1 st hQ
  subst l1 y1 z1
  exact own_st st (k v T' L X' hQ)
theorem own_callN (X : Stand p l e R s m args below meth c T locs cells slots) (hx : p.tables.exec = Jvm.exec) {own : String} {index : Nat} {y : MethodName} {bytes : ByteArray} {maxL : Nat} (hy1 : y.name = "<init>")
    (hown : s.vm.findClass own = some m.cls) (hlink : (Cond.methodLink own index y).before args s = true) (hinst : (Cond.instanceMethod y).before args s = true)
    (hcode : (Cond.code y bytes maxL none).before args s = true) (hy : y.cls ≠ "java/lang/invoke/MethodHandle" ∧ y.cls ≠ "java/lang/invoke/VarHandle")
    {W rc rs : Nat} {as' : Array Value} {h : Heap} {Qc : Option Value → Heap → List Loc → Prop}
    (hK : Back l R p e below s args y 3 W (fun A a => a = as' ∧ A.U.heap = h ∧ A.cells + rc ≤ R.cells ∧ A.slots + rs ≤ R.slots) (fun A _ v B => ∃ L, Qc v B.U.heap L ∧ B.locs = A.locs ++ L ∧ B.cells = A.cells + rc ∧ B.slots = A.slots + rs))
    {a : Addr} (hg : g.method = m) (hsize : g.locals.size = c.maxLocals) {argsL rest : List Value} (hlen : ∀ sig, parseMethodDescriptor y.desc = some sig → argsL.length = sig.parameters.length)
    (hstack : g.stack = argsL.reverse ++ .ref a :: rest) (hW : 2 * g.monitorRoom + (rest.map fun v => v.category).sum ≤ W) (hdg : decode c.code g.pc = .ok (.invokespecial index, 3))
    (ha : (Value.ref a :: argsL).toArray = as') (eT : T.heap = h) (hc : cells + rc ≤ R.cells) (hs : slots + rs ≤ R.slots)
    (k : ∀ v T' L, Stand p l e R s m args below meth c T' (locs ++ L) (cells + rc) (slots + rs) → Qc v T'.heap L → own_Go p e below P T' { g with pc := g.pc + 3, stack := v.toList ++ rest }) : own_Go p e below P T g := by
  obtain ⟨v, vm₁, ⟨T', L', k', n'⟩, -, X', ⟨L, hQ, l1, y1, z1⟩, st⟩ := X.specialBack hx hy1 hown hlink hinst hcode hy hK hg hsize (Steps.refl _) hlen hstack hW hdg (fun _ _ => ⟨ha, eT, hc, hs⟩)
  dsimp only [Pt.U, Pt.locs, Pt.cells, Pt.slots] at X' l1 y1 z1 st hQ
  subst l1 y1 z1
  exact own_st (fun t k => st.trans k) (k v T' L X' hQ)
theorem own_callV (X : Stand p l e R s m args below meth c T locs cells slots) (hx : p.tables.exec = Jvm.exec) {own Cn : String} {index : Nat} {y z : MethodName}
    (hown : s.vm.findClass own = some m.cls) (hlink : (Cond.methodLink own index y).before args s = true) (hdecl : (Cond.declares y).before args s = true) (hnf : NotFace s y)
    (hsel : (Cond.selects Cn y z).before args s = true) (hinst : (Cond.instanceMethod z).before args s = true)
    (hy : y.cls ≠ "java/lang/invoke/MethodHandle" ∧ y.cls ≠ "java/lang/invoke/VarHandle")
    {W rc rs : Nat} {as' : Array Value} {h : Heap} {Qc : Option Value → Heap → List Loc → Prop}
    (hK : Back l R p e below s args z 3 W (fun A a => a = as' ∧ A.U.heap = h ∧ A.cells + rc ≤ R.cells ∧ A.slots + rs ≤ R.slots) (fun A _ v B => ∃ L, Qc v B.U.heap L ∧ B.locs = A.locs ++ L ∧ B.cells = A.cells + rc ∧ B.slots = A.slots + rs))
    {a : Addr} {cB : ClassId} (hcB : s.vm.findClass Cn = some cB) (hrecv : IsOf cB T a)
    (hg : g.method = m) (hsize : g.locals.size = c.maxLocals) {argsL rest : List Value} (hlen : ∀ sig, parseMethodDescriptor y.desc = some sig → argsL.length = sig.parameters.length)
    (hstack : g.stack = argsL.reverse ++ .ref a :: rest) (hW : 2 * g.monitorRoom + (rest.map fun v => v.category).sum ≤ W) (hdg : decode c.code g.pc = .ok (.invokevirtual index, 3))
    (ha : (Value.ref a :: argsL).toArray = as') (eT : T.heap = h) (hc : cells + rc ≤ R.cells) (hs : slots + rs ≤ R.slots)
    (k : ∀ v T' L, Stand p l e R s m args below meth c T' (locs ++ L) (cells + rc) (slots + rs) → Qc v T'.heap L → own_Go p e below P T' { g with pc := g.pc + 3, stack := v.toList ++ rest }) : own_Go p e below P T g := by
  obtain ⟨v, vm₁, ⟨T', L', k', n'⟩, -, X', ⟨L, hQ, l1, y1, z1⟩, st⟩ := X.virtualBack hx hown hlink hdecl hnf hsel hinst hy hK hcB hrecv hg hsize (Steps.refl _) hlen hstack hW hdg (fun _ _ => ⟨ha, eT, hc, hs⟩)
  dsimp only [Pt.U, Pt.locs, Pt.cells, Pt.slots] at X' l1 y1 z1 st hQ
  subst l1 y1 z1
  exact own_st (fun t k => st.trans k) (k v T' L X' hQ)
theorem own_callI (X : Stand p l e R s m args below meth c T locs cells slots) (hx : p.tables.exec = Jvm.exec) {own Cn : String} {index count : Nat} {xi y : MethodName}
    (hown : s.vm.findClass own = some m.cls) (hlink : (Cond.methodLink own index xi).before args s = true) (hdecl : (Cond.declares xi).before args s = true)
    (hface : (Cond.interfaceMethod xi.cls xi.cls xi.name xi.desc).before args s = true) (hsel : (Cond.selects Cn xi y).before args s = true) (hinst : (Cond.instanceMethod y).before args s = true)
    (hpub : (Cond.publicMethod y).before args s = true) (hunh : (Cond.unhidden Cn xi.name xi.desc).before args s = true) (hcast : (Cond.castable Cn xi.cls).before args s = true)
    (hy : xi.cls ≠ "java/lang/invoke/MethodHandle" ∧ xi.cls ≠ "java/lang/invoke/VarHandle")
    {W rc rs : Nat} {as' : Array Value} {h : Heap} {Qc : Option Value → Heap → List Loc → Prop}
    (hK : Back l R p e below s args y 5 W (fun A a => a = as' ∧ A.U.heap = h ∧ A.cells + rc ≤ R.cells ∧ A.slots + rs ≤ R.slots) (fun A _ v B => ∃ L, Qc v B.U.heap L ∧ B.locs = A.locs ++ L ∧ B.cells = A.cells + rc ∧ B.slots = A.slots + rs))
    {a : Addr} {cB : ClassId} {kB : Class} (hcB : s.vm.findClass Cn = some cB) (hkB : s.vm.classes[cB]? = some kB) (hrecv : IsOf cB T a)
    (hg : g.method = m) (hsize : g.locals.size = c.maxLocals) {argsL rest : List Value} (hlen : ∀ sig, parseMethodDescriptor xi.desc = some sig → argsL.length = sig.parameters.length)
    (hstack : g.stack = argsL.reverse ++ .ref a :: rest) (hW : 2 * g.monitorRoom + (rest.map fun v => v.category).sum ≤ W) (hdg : decode c.code g.pc = .ok (.invokeinterface index count, 5))
    (ha : (Value.ref a :: argsL).toArray = as') (eT : T.heap = h) (hc : cells + rc ≤ R.cells) (hs : slots + rs ≤ R.slots)
    (k : ∀ v T' L, Stand p l e R s m args below meth c T' (locs ++ L) (cells + rc) (slots + rs) → Qc v T'.heap L → own_Go p e below P T' { g with pc := g.pc + 5, stack := v.toList ++ rest }) : own_Go p e below P T g := by
  obtain ⟨v, vm₁, ⟨T', L', k', n'⟩, -, X', ⟨L, hQ, l1, y1, z1⟩, st⟩ := X.interfaceBack hx hown hlink hdecl hface hsel hinst hpub hunh hcast hy hK hcB hkB hrecv hg hsize (Steps.refl _) hlen hstack hW hdg (fun _ _ => ⟨ha, eT, hc, hs⟩)
  dsimp only [Pt.U, Pt.locs, Pt.cells, Pt.slots] at X' l1 y1 z1 st hQ
  subst l1 y1 z1
  exact own_st (fun t k => st.trans k) (k v T' L X' hQ)
theorem own_callP (X : Stand p l e R s m args below meth c T locs cells slots) (hx : p.tables.exec = Jvm.exec) {own : String} {index : Nat} {y : MethodName} {bytes : ByteArray} {maxL : Nat} {ret : Option FieldType}
    (hown : s.vm.findClass own = some m.cls) (hlink : (Cond.methodLink own index y).before args s = true) (hinst : (Cond.instanceMethod y).before args s = true) (hsel : (Cond.selects y.cls y y).before args s = true)
    (hpriv : s.PrivateAt y) (hcode : (Cond.code y bytes maxL ret).before args s = true) (hy : y.cls ≠ "java/lang/invoke/MethodHandle" ∧ y.cls ≠ "java/lang/invoke/VarHandle")
    {W rc rs : Nat} {as' : Array Value} {h : Heap} {Qc : Option Value → Heap → List Loc → Prop}
    (hK : Back l R p e below s args y 3 W (fun A a => a = as' ∧ A.U.heap = h ∧ A.cells + rc ≤ R.cells ∧ A.slots + rs ≤ R.slots) (fun A _ v B => ∃ L, Qc v B.U.heap L ∧ B.locs = A.locs ++ L ∧ B.cells = A.cells + rc ∧ B.slots = A.slots + rs))
    {a : Addr} {cell : Cell} (hcell : T.heap[a]? = some cell) (hobj : ∀ q, cell.vm ≠ .statics q)
    (hg : g.method = m) (hsize : g.locals.size = c.maxLocals) {argsL rest : List Value} (hlen : ∀ sig, parseMethodDescriptor y.desc = some sig → argsL.length = sig.parameters.length)
    (hstack : g.stack = argsL.reverse ++ .ref a :: rest) (hW : 2 * g.monitorRoom + (rest.map fun v => v.category).sum ≤ W) (hdg : decode c.code g.pc = .ok (.invokevirtual index, 3))
    (ha : (Value.ref a :: argsL).toArray = as') (eT : T.heap = h) (hc : cells + rc ≤ R.cells) (hs : slots + rs ≤ R.slots)
    (k : ∀ v T' L, Stand p l e R s m args below meth c T' (locs ++ L) (cells + rc) (slots + rs) → Qc v T'.heap L → own_Go p e below P T' { g with pc := g.pc + 3, stack := v.toList ++ rest }) : own_Go p e below P T g := by
  obtain ⟨v, vm₁, ⟨T', L', k', n'⟩, -, X', ⟨L, hQ, l1, y1, z1⟩, st⟩ := X.privateBack hx hown hlink hinst hsel hpriv hcode hy hK hg hsize (Steps.refl _) hcell hobj hlen hstack hW hdg (fun _ _ => ⟨ha, eT, hc, hs⟩)
  dsimp only [Pt.U, Pt.locs, Pt.cells, Pt.slots] at X' l1 y1 z1 st hQ
  subst l1 y1 z1
  exact own_st (fun t k => st.trans k) (k v T' L X' hQ)
end Own
section OwnWords
variable {args : Array Value} {s : State} {t u : Term} {x y : Addr} {C n d : String} {z : Int32}
theorem own_feqR (h : (Cond.eq (Term.field t C n d) u).value args s none s [] = some true) (ht : t.eval args s none [] s = some (.ref x)) (hu : u.eval args s none [] s = some (.ref y)) : s.fieldOf? x C n d = some (.ref y) := by
  obtain ⟨x', y', h1, h2, k1, k2⟩ := cmp_v (Or.inl h)
  cases hu.symm.trans h2
  have hr : x'.isRef = true := k2.2
  have := gotT (eq_R h1 h2 hr rfl) h
  rw [← fld_at ht (idx := []) (first := s) (o := none) (args := args), h1, this]
theorem own_feqI (h : (Cond.eq (Term.field t C n d) (.int z)).value args s none s [] = some true) (ht : t.eval args s none [] s = some (.ref x)) : s.fieldOf? x C n d = some (.int z) := by
  obtain ⟨x', y', h1, h2, k1, k2⟩ := cmp_v (Or.inl h)
  cases (Term.int_eval z).symm.trans h2
  obtain ⟨z', rfl⟩ := k2
  have : z' = z := by simpa [Cond.value, h1, Term.int_eval] using h
  rw [← fld_at ht (idx := []) (first := s) (o := none) (args := args), h1, this]
end OwnWords

theorem own_words {Z : State} {a0 : Array Value} (hw : ∀ d ∈ tables_1, d.before a0 Z = true) : ∀ d ∈ StrChars.Road.words, d.before a0 Z = true := fun d hd => hw d ((by decide +kernel : ∀ d ∈ StrChars.Road.words, d ∈ tables_1) d hd)
theorem own_lnil : ∀ c ∈ ([] : List Int32), ¬ c < 0 ∧ ¬ (255 : Int32) < c := fun _ h => nomatch h
theorem own_lcons {a : Int32} {cs : List Int32} (h : ¬ a < 0 ∧ ¬ (255 : Int32) < a) (r : ∀ c ∈ cs, ¬ c < 0 ∧ ¬ (255 : Int32) < c) : ∀ c ∈ a :: cs, ¬ c < 0 ∧ ¬ (255 : Int32) < c := fun c hc => (List.mem_cons.mp hc).elim (fun e => e ▸ h) (r c)
theorem own_lat (y : Int32) (h : 0 ≤ y.toInt ∧ y.toInt ≤ 255) : nar .char y = y ∧ ¬ y < 0 ∧ ¬ (255 : Int32) < y := by
  have c := c_i2c y
  refine ⟨Int32.toInt_inj.mp ?_, ?_, ?_⟩
  · show y.toUInt32.toUInt16.toUInt32.toInt32.toInt = y.toInt
    omega
  · rw [Int32.lt_iff_toInt_lt]; show ¬ y.toInt < 0; omega
  · rw [Int32.lt_iff_toInt_lt]; show ¬ (255 : Int) < y.toInt; omega
theorem own_and255 (x : Int32) : ¬ nar .char ((x &&& (255 : Int32)).toUInt32.toUInt16.toUInt32.toInt32) < 0 ∧ ¬ (255 : Int32) < nar .char ((x &&& (255 : Int32)).toUInt32.toUInt16.toUInt32.toInt32) := by
  have h := c_and x (255 : Int32) (by decide)
  have e := own_lat (x &&& 255) ⟨h.1, h.2⟩
  have e2 : (x &&& (255 : Int32)).toUInt32.toUInt16.toUInt32.toInt32 = x &&& 255 := e.1
  rw [e2, e.1]; exact e.2
theorem own_up {cs : List Int32} (h : ∀ c ∈ cs, ¬ c < 0 ∧ ¬ (255 : Int32) < c) : ∀ c ∈ cs, ¬ c < 0 ∧ ¬ (65535 : Int32) < c := fun c hc => ⟨(h c hc).1, fun q => (h c hc).2 (by rw [Int32.lt_iff_toInt_lt] at q ⊢; have e1 : (65535 : Int32).toInt = 65535 := rfl; have e2 : (255 : Int32).toInt = 255 := rfl; omega)⟩
theorem own_nb {z : Int32} (h : z = (0 : Int32) ∨ z = (1 : Int32)) : nar .boolean z = z := by rcases h with rfl | rfl <;> rfl
theorem own_nbV {z : Int32} (h : z = (0 : Int32) ∨ z = (1 : Int32)) : narrow .boolean (.int z) = .int z := by rcases h with rfl | rfl <;> rfl
theorem own_nbF {z : Int32} (h : z = (0 : Int32) ∨ z = (1 : Int32)) : fits .boolean (.int z) = true := by rcases h with rfl | rfl <;> decide
def QN (Z : State) (a nm : Addr) (z t f : Int32) (h0 : Heap) (n0 : Nat) (v : Option Value) (h : Heap) (L : List Loc) : Prop := v = none ∧ Fr n0 L ∧ Keep h0 h [a] ∧ Exa Z h a "com/example/kapu/kapu/service/Coverage$Part" ∧ Fld Z h a "com/example/kapu/kapu/service/Coverage$Part" "name" "Ljava/lang/String;" (.ref nm) ∧ Fld Z h a "com/example/kapu/kapu/service/Coverage$Part" "condition" "Z" (.int z) ∧ Fld Z h a "com/example/kapu/kapu/service/Coverage$Part" "coveredTrue" "Z" (.int t) ∧ Fld Z h a "com/example/kapu/kapu/service/Coverage$Part" "coveredFalse" "Z" (.int f)
theorem d1_0 : decode prog_96_method_1_code 0 = .ok (.aload_n 0, 1) := by decide +kernel
theorem d1_1 : decode prog_96_method_1_code 1 = .ok (.invokespecial 1, 3) := by decide +kernel
theorem d1_4 : decode prog_96_method_1_code 4 = .ok (.aload_n 0, 1) := by decide +kernel
theorem d1_5 : decode prog_96_method_1_code 5 = .ok (.aload_n 1, 1) := by decide +kernel
theorem d1_6 : decode prog_96_method_1_code 6 = .ok (.putfield 7, 3) := by decide +kernel
theorem d1_9 : decode prog_96_method_1_code 9 = .ok (.aload_n 0, 1) := by decide +kernel
theorem d1_10 : decode prog_96_method_1_code 10 = .ok (.iload_n 2, 1) := by decide +kernel
theorem d1_11 : decode prog_96_method_1_code 11 = .ok (.putfield 13, 3) := by decide +kernel
theorem d1_14 : decode prog_96_method_1_code 14 = .ok (.return_, 1) := by decide +kernel
theorem pn_0 : plainName "com/example/kapu/kapu/service/Coverage$Part" = true := by first | (simp [plainName, overriddenIn]; done) | decide +kernel
theorem ef_rmN (m : MethodId) (x0 : Addr) (x1 : Addr) (x2 : Int32) : entryFrame m #[(.ref x0), (.ref x1), (.int x2)] 3 = mkF m 0 #[.val (.ref x0), .val (.ref x1), .val (.int x2)] [] := by first | (simp [entryFrame, mkF, argsToLocals, Value.category]; done) | rfl
set_option maxRecDepth 65536 in
set_option maxHeartbeats 40000000 in
theorem rmN (l : Launch) (Z : State) (a0 : Array Value) (hw : ∀ d ∈ tables_1, d.before a0 Z = true) (ws : List Jvm.Cond) (a nm : Addr) (z : Int32) (h0 : Heap) (n0 : Nat) (Z0 : n0 ≤ h0.size) (g_a : n0 ≤ a) (Ea : Exa Z h0 a "com/example/kapu/kapu/service/Coverage$Part") (F0 : Fld Z h0 a "com/example/kapu/kapu/service/Coverage$Part" "name" "Ljava/lang/String;" .null) (F1 : Fld Z h0 a "com/example/kapu/kapu/service/Coverage$Part" "condition" "Z" (.int (0 : Int32))) (F2 : Fld Z h0 a "com/example/kapu/kapu/service/Coverage$Part" "coveredTrue" "Z" (.int (0 : Int32))) (F3 : Fld Z h0 a "com/example/kapu/kapu/service/Coverage$Part" "coveredFalse" "Z" (.int (0 : Int32))) (hz : z = (0 : Int32) ∨ z = (1 : Int32)) :
    MetFree l (⟨"com/example/kapu/kapu/service/Coverage$Part", "<init>", "(Ljava/lang/String;Z)V"⟩ : MethodName) (head1 (Jvm.Cond.code (⟨"com/example/kapu/kapu/service/Coverage$Part", "<init>", "(Ljava/lang/String;Z)V"⟩ : MethodName) prog_96_method_1_code 3 none :: ws) ({ frames := 1, cells := 0, slots := 0, locals := 12 } : Room)) (fun a_ U_ => a_ = #[(.ref a), (.ref nm), (.int z)] ∧ Z.Warmed39 U_.vm ∧ U_.heap = h0) (fun _ _ _ _ _ => True) (fun _ U_ o_ U'_ => ∃ v_ L_, o_ = .returned v_ ∧ QN Z a nm z 0 0 h0 n0 v_ U'_.heap L_ ∧ FrameEnd U_ o_ U'_ L_ ({ frames := 1, cells := 0, slots := 0, locals := 12 } : Room).cells ({ frames := 1, cells := 0, slots := 0, locals := 12 } : Room).slots) := by
  refine MetFree.of_bodySF (plainFor_of_name pn_0) hisR ?_
  intro p e s m args below meth c s₁ Bd hml0 hP hK
  obtain ⟨rfl, hZ, hh⟩ := hP
  have hx := Bd.exec
  have hby := Bd.bytes
  have hml : c.maxLocals = 3 := hml0
  have hown : s.vm.findClass "com/example/kapu/kapu/service/Coverage$Part" = some m.cls := findClass_of_methodNamed Bd.named
  have hnm := (name_of_methodNamed Bd.named Bd.method).1
  have hlk := BodyLoose.notSynchronized Bd
  have X0 : Stand p l e ({ frames := 1, cells := 0, slots := 0, locals := 12 } : Room) s m #[(.ref a), (.ref nm), (.int z)] below meth c s₁ [] 0 0 := Stand.of_body Bd
  have e0 : s₁.heap = h0 := by rw [← hh, Bd.state]; rfl
  have N0 := Fr.nil n0
  refine own_entry (P := own_End s (QN Z a nm z 0 0 h0 n0) ({ frames := 1, cells := 0, slots := 0, locals := 12 } : Room).cells ({ frames := 1, cells := 0, slots := 0, locals := 12 } : Room).slots) (ef_rmN m a nm z) ?_
  show own_Go p e below _ s₁ (mkF m 0 #[.val (.ref a), .val (.ref nm), .val (.int z)] [])
  refine own_st (fun t_ k_ => XS.aloadN X0.here hx rfl (hb hby d1_0) rfl rfl k_) ?_
  show own_Go p e below _ s₁ (mkF m 1 #[.val (.ref a), .val (.ref nm), .val (.int z)] [(.ref a)])
  obtain ⟨T1, X1, e1, st1⟩ := initO X0 hx hZ hown (hw _ (List.mem_of_getElem? (i := 36) rfl)) (hw _ (List.mem_of_getElem? (i := 15) rfl)) (hw _ (List.mem_of_getElem? (i := 16) rfl)) e0 (g := (mkF m 1 #[.val (.ref a), .val (.ref nm), .val (.int z)] [(.ref a)])) rfl (by rw [hml]; rfl) rfl (hb hby d1_1) (by decide) (W := 0) (by show 2 * 0 + _ ≤ _; exact Nat.le_of_eq rfl) (by decide)
  refine own_st st1 ?_
  show own_Go p e below _ T1 (mkF m 4 #[.val (.ref a), .val (.ref nm), .val (.int z)] [])
  refine own_st (fun t_ k_ => XS.aloadN X1.here hx rfl (hb hby d1_4) rfl rfl k_) ?_
  show own_Go p e below _ T1 (mkF m 5 #[.val (.ref a), .val (.ref nm), .val (.int z)] [(.ref a)])
  refine own_st (fun t_ k_ => XS.aloadN X1.here hx rfl (hb hby d1_5) rfl rfl k_) ?_
  show own_Go p e below _ T1 (mkF m 6 #[.val (.ref a), .val (.ref nm), .val (.int z)] [(.ref nm), (.ref a)])
  obtain ⟨T2, h2, X2, e2, W2, st2⟩ := putF X1 hx hZ hown (host := "") (Or.inl (hw _ (List.mem_of_getElem? (i := 37) rfl))) Via.refl e1 F0 Ea (Or.inr ⟨(hw _ (List.mem_of_getElem? (i := 38) rfl)), rfl, hnm⟩) (hw _ (List.mem_of_getElem? (i := 2) rfl)) (ty := (.object "java/lang/String")) (by decide) rfl rfl (g := (mkF m 6 #[.val (.ref a), .val (.ref nm), .val (.int z)] [(.ref nm), (.ref a)])) rfl rfl (hb hby d1_6)
  refine own_st st2 ?_
  have N2 := Fr.snoc X2 N0 g_a
  have K2 : Keep h0 h2 [a] := (Keep.refl h0 [a]).wr W2 (Or.inl (List.mem_of_getElem? (i := 0) rfl))
  have Fw2 := Fld.same W2 F0
  show own_Go p e below _ T2 (mkF m 9 #[.val (.ref a), .val (.ref nm), .val (.int z)] [])
  refine own_st (fun t_ k_ => XS.aloadN X2.here hx rfl (hb hby d1_9) rfl rfl k_) ?_
  show own_Go p e below _ T2 (mkF m 10 #[.val (.ref a), .val (.ref nm), .val (.int z)] [(.ref a)])
  refine own_st (fun t_ k_ => XS.iloadN X2.here hx rfl (hb hby d1_10) rfl k_) ?_
  show own_Go p e below _ T2 (mkF m 11 #[.val (.ref a), .val (.ref nm), .val (.int z)] [(.int z), (.ref a)])
  have f4 := (Fld.other W2 F1 (Or.inr (slot_ne (Or.inr (hw _ (List.mem_of_getElem? (i := 40) rfl))) (Or.inr (hw _ (List.mem_of_getElem? (i := 38) rfl))) (by decide) (t := .boolean) (t' := (.object "java/lang/String")) (by decide) (by decide))))
  have f5 := (Exa.wr W2 Ea)
  obtain ⟨T3, h3, X3, e3, W3, st3⟩ := putFN X2 hx hZ hown (hw _ (List.mem_of_getElem? (i := 39) rfl)) Via.refl e2 f4 f5 (Or.inr ⟨(hw _ (List.mem_of_getElem? (i := 40) rfl)), rfl, hnm⟩) (hw _ (List.mem_of_getElem? (i := 2) rfl)) (ty := .boolean) (v' := (.int z)) (by decide) (own_nbV hz) (own_nbF hz) (g := (mkF m 11 #[.val (.ref a), .val (.ref nm), .val (.int z)] [(.int z), (.ref a)])) rfl rfl (hb hby d1_11)
  refine own_st st3 ?_
  have N3 := Fr.snoc X3 N2 g_a
  have K3 : Keep h0 h3 [a] := K2.wr W3 (Or.inl (List.mem_of_getElem? (i := 0) rfl))
  have Fw3 := Fld.same W3 f4
  show own_Go p e below _ T3 (mkF m 14 #[.val (.ref a), .val (.ref nm), .val (.int z)] [])
  have f6 := (Exa.wr W3 f5)
  have f7 := (Fld.other W3 Fw2 (Or.inr (slot_ne (Or.inr (hw _ (List.mem_of_getElem? (i := 38) rfl))) (Or.inr (hw _ (List.mem_of_getElem? (i := 40) rfl))) (by decide) (t := (.object "java/lang/String")) (t' := .boolean) (by decide) (by decide))))
  have f8 := (Fld.other W2 F2 (Or.inr (slot_ne (Or.inl (hw _ (List.mem_of_getElem? (i := 47) rfl))) (Or.inr (hw _ (List.mem_of_getElem? (i := 38) rfl))) (by decide) (t := .boolean) (t' := (.object "java/lang/String")) (by decide) (by decide))))
  have f9 := (Fld.other W3 f8 (Or.inr (slot_ne (Or.inl (hw _ (List.mem_of_getElem? (i := 47) rfl))) (Or.inr (hw _ (List.mem_of_getElem? (i := 40) rfl))) (by decide) (t := .boolean) (t' := .boolean) (by decide) (by decide))))
  have f10 := (Fld.other W2 F3 (Or.inr (slot_ne (Or.inl (hw _ (List.mem_of_getElem? (i := 49) rfl))) (Or.inr (hw _ (List.mem_of_getElem? (i := 38) rfl))) (by decide) (t := .boolean) (t' := (.object "java/lang/String")) (by decide) (by decide))))
  have f11 := (Fld.other W3 f10 (Or.inr (slot_ne (Or.inl (hw _ (List.mem_of_getElem? (i := 49) rfl))) (Or.inr (hw _ (List.mem_of_getElem? (i := 40) rfl))) (by decide) (t := .boolean) (t' := .boolean) (by decide) (by decide))))
  refine own_ret0 X3 hx hlk Bd.returns (hb hby d1_14) ?_ (by decide) (by decide)
  show QN Z a nm z 0 0 h0 n0 _ T3.heap _
  rw [e3]
  exact ⟨rfl, N3, K3, f6, f7, Fw3, f9, f11⟩
theorem d2_0 : decode prog_96_method_5_code 0 = .ok (.iload_n 1, 1) := by decide +kernel
theorem d2_1 : decode prog_96_method_5_code 1 = .ok (.ifCond .eq 11, 3) := by decide +kernel
theorem d2_4 : decode prog_96_method_5_code 4 = .ok (.aload_n 0, 1) := by decide +kernel
theorem d2_5 : decode prog_96_method_5_code 5 = .ok (.iconst 1, 1) := by decide +kernel
theorem d2_6 : decode prog_96_method_5_code 6 = .ok (.putfield 17, 3) := by decide +kernel
theorem d2_9 : decode prog_96_method_5_code 9 = .ok (.goto 8, 3) := by decide +kernel
theorem d2_17 : decode prog_96_method_5_code 17 = .ok (.return_, 1) := by decide +kernel
theorem ef_rmC1 (m : MethodId) (x0 : Addr) (x1 : Int32) : entryFrame m #[(.ref x0), (.int x1)] 2 = mkF m 0 #[.val (.ref x0), .val (.int x1)] [] := by first | (simp [entryFrame, mkF, argsToLocals, Value.category]; done) | rfl
set_option maxRecDepth 65536 in
set_option maxHeartbeats 40000000 in
theorem rmC1 (l : Launch) (Z : State) (a0 : Array Value) (hw : ∀ d ∈ tables_1, d.before a0 Z = true) (ws : List Jvm.Cond) (a nm : Addr) (z t f : Int32) (h0 : Heap) (n0 : Nat) (Z0 : n0 ≤ h0.size) (g_a : n0 ≤ a) (Ea : Exa Z h0 a "com/example/kapu/kapu/service/Coverage$Part") (F0 : Fld Z h0 a "com/example/kapu/kapu/service/Coverage$Part" "name" "Ljava/lang/String;" (.ref nm)) (F1 : Fld Z h0 a "com/example/kapu/kapu/service/Coverage$Part" "condition" "Z" (.int z)) (F2 : Fld Z h0 a "com/example/kapu/kapu/service/Coverage$Part" "coveredTrue" "Z" (.int t)) (F3 : Fld Z h0 a "com/example/kapu/kapu/service/Coverage$Part" "coveredFalse" "Z" (.int f)) :
    MetFree l (⟨"com/example/kapu/kapu/service/Coverage$Part", "cover", "(Z)V"⟩ : MethodName) (head1 (Jvm.Cond.code (⟨"com/example/kapu/kapu/service/Coverage$Part", "cover", "(Z)V"⟩ : MethodName) prog_96_method_5_code 2 none :: ws) ({ frames := 0, cells := 0, slots := 0, locals := 0 } : Room)) (fun a_ U_ => a_ = #[(.ref a), (.int (1 : Int32))] ∧ Z.Warmed39 U_.vm ∧ U_.heap = h0) (fun _ _ _ _ _ => True) (fun _ U_ o_ U'_ => ∃ v_ L_, o_ = .returned v_ ∧ QN Z a nm z 1 f h0 n0 v_ U'_.heap L_ ∧ FrameEnd U_ o_ U'_ L_ ({ frames := 0, cells := 0, slots := 0, locals := 0 } : Room).cells ({ frames := 0, cells := 0, slots := 0, locals := 0 } : Room).slots) := by
  refine MetFree.of_bodySF (plainFor_of_name pn_0) hisR ?_
  intro p e s m args below meth c s₁ Bd hml0 hP hK
  obtain ⟨rfl, hZ, hh⟩ := hP
  have hx := Bd.exec
  have hby := Bd.bytes
  have hml : c.maxLocals = 2 := hml0
  have hown : s.vm.findClass "com/example/kapu/kapu/service/Coverage$Part" = some m.cls := findClass_of_methodNamed Bd.named
  have hnm := (name_of_methodNamed Bd.named Bd.method).1
  have hlk := BodyLoose.notSynchronized Bd
  have X0 : Stand p l e ({ frames := 0, cells := 0, slots := 0, locals := 0 } : Room) s m #[(.ref a), (.int (1 : Int32))] below meth c s₁ [] 0 0 := Stand.of_body Bd
  have e0 : s₁.heap = h0 := by rw [← hh, Bd.state]; rfl
  have N0 := Fr.nil n0
  refine own_entry (P := own_End s (QN Z a nm z 1 f h0 n0) ({ frames := 0, cells := 0, slots := 0, locals := 0 } : Room).cells ({ frames := 0, cells := 0, slots := 0, locals := 0 } : Room).slots) (ef_rmC1 m a (1 : Int32)) ?_
  show own_Go p e below _ s₁ (mkF m 0 #[.val (.ref a), .val (.int (1 : Int32))] [])
  refine own_st (fun t_ k_ => XS.iloadN X0.here hx rfl (hb hby d2_0) rfl k_) ?_
  show own_Go p e below _ s₁ (mkF m 1 #[.val (.ref a), .val (.int (1 : Int32))] [(.int (1 : Int32))])
  refine own_st (fun t_ k_ => XS.ifNo X0.here hx rfl (hb hby d2_1) rfl (by decide) k_) ?_
  show own_Go p e below _ s₁ (mkF m 4 #[.val (.ref a), .val (.int (1 : Int32))] [])
  refine own_st (fun t_ k_ => XS.aloadN X0.here hx rfl (hb hby d2_4) rfl rfl k_) ?_
  show own_Go p e below _ s₁ (mkF m 5 #[.val (.ref a), .val (.int (1 : Int32))] [(.ref a)])
  refine own_st (fun t_ k_ => XS.iconst X0.here hx rfl (hb hby d2_5) k_) ?_
  show own_Go p e below _ s₁ (mkF m 6 #[.val (.ref a), .val (.int (1 : Int32))] [(.int (1 : Int32)), (.ref a)])
  obtain ⟨T1, h1, X1, e1, W1, st1⟩ := putFN X0 hx hZ hown (hw _ (List.mem_of_getElem? (i := 46) rfl)) Via.refl e0 F2 Ea (Or.inl (hw _ (List.mem_of_getElem? (i := 47) rfl))) (hw _ (List.mem_of_getElem? (i := 2) rfl)) (ty := .boolean) (v' := (.int (1 : Int32))) (by decide) rfl (by decide) (g := (mkF m 6 #[.val (.ref a), .val (.int (1 : Int32))] [(.int (1 : Int32)), (.ref a)])) rfl rfl (hb hby d2_6)
  refine own_st st1 ?_
  have N1 := Fr.snoc X1 N0 g_a
  have K1 : Keep h0 h1 [a] := (Keep.refl h0 [a]).wr W1 (Or.inl (List.mem_of_getElem? (i := 0) rfl))
  have Fw1 := Fld.same W1 F2
  show own_Go p e below _ T1 (mkF m 9 #[.val (.ref a), .val (.int (1 : Int32))] [])
  refine own_st (fun t_ k_ => XS.goto X1.here hx rfl (pc0 := 9) (pc' := 17) rfl (hb hby d2_9) (by decide) (by decide) k_) ?_
  show own_Go p e below _ T1 (mkF m 17 #[.val (.ref a), .val (.int (1 : Int32))] [])
  have f2 := (Exa.wr W1 Ea)
  have f3 := (Fld.other W1 F0 (Or.inr (slot_ne (Or.inr (hw _ (List.mem_of_getElem? (i := 38) rfl))) (Or.inl (hw _ (List.mem_of_getElem? (i := 47) rfl))) (by decide) (t := (.object "java/lang/String")) (t' := .boolean) (by decide) (by decide))))
  have f4 := (Fld.other W1 F1 (Or.inr (slot_ne (Or.inr (hw _ (List.mem_of_getElem? (i := 40) rfl))) (Or.inl (hw _ (List.mem_of_getElem? (i := 47) rfl))) (by decide) (t := .boolean) (t' := .boolean) (by decide) (by decide))))
  have f5 := (Fld.other W1 F3 (Or.inr (slot_ne (Or.inl (hw _ (List.mem_of_getElem? (i := 49) rfl))) (Or.inl (hw _ (List.mem_of_getElem? (i := 47) rfl))) (by decide) (t := .boolean) (t' := .boolean) (by decide) (by decide))))
  refine own_ret0 X1 hx hlk Bd.returns (hb hby d2_17) ?_ (by decide) (by decide)
  show QN Z a nm z 1 f h0 n0 _ T1.heap _
  rw [e1]
  exact ⟨rfl, N1, K1, f2, f3, f4, Fw1, f5⟩
theorem d2_12 : decode prog_96_method_5_code 12 = .ok (.aload_n 0, 1) := by decide +kernel
theorem d2_13 : decode prog_96_method_5_code 13 = .ok (.iconst 1, 1) := by decide +kernel
theorem d2_14 : decode prog_96_method_5_code 14 = .ok (.putfield 20, 3) := by decide +kernel
theorem ef_rmC0 (m : MethodId) (x0 : Addr) (x1 : Int32) : entryFrame m #[(.ref x0), (.int x1)] 2 = mkF m 0 #[.val (.ref x0), .val (.int x1)] [] := by first | (simp [entryFrame, mkF, argsToLocals, Value.category]; done) | rfl
set_option maxRecDepth 65536 in
set_option maxHeartbeats 40000000 in
theorem rmC0 (l : Launch) (Z : State) (a0 : Array Value) (hw : ∀ d ∈ tables_1, d.before a0 Z = true) (ws : List Jvm.Cond) (a nm : Addr) (z t f : Int32) (h0 : Heap) (n0 : Nat) (Z0 : n0 ≤ h0.size) (g_a : n0 ≤ a) (Ea : Exa Z h0 a "com/example/kapu/kapu/service/Coverage$Part") (F0 : Fld Z h0 a "com/example/kapu/kapu/service/Coverage$Part" "name" "Ljava/lang/String;" (.ref nm)) (F1 : Fld Z h0 a "com/example/kapu/kapu/service/Coverage$Part" "condition" "Z" (.int z)) (F2 : Fld Z h0 a "com/example/kapu/kapu/service/Coverage$Part" "coveredTrue" "Z" (.int t)) (F3 : Fld Z h0 a "com/example/kapu/kapu/service/Coverage$Part" "coveredFalse" "Z" (.int f)) :
    MetFree l (⟨"com/example/kapu/kapu/service/Coverage$Part", "cover", "(Z)V"⟩ : MethodName) (head1 (Jvm.Cond.code (⟨"com/example/kapu/kapu/service/Coverage$Part", "cover", "(Z)V"⟩ : MethodName) prog_96_method_5_code 2 none :: ws) ({ frames := 0, cells := 0, slots := 0, locals := 0 } : Room)) (fun a_ U_ => a_ = #[(.ref a), (.int (0 : Int32))] ∧ Z.Warmed39 U_.vm ∧ U_.heap = h0) (fun _ _ _ _ _ => True) (fun _ U_ o_ U'_ => ∃ v_ L_, o_ = .returned v_ ∧ QN Z a nm z t 1 h0 n0 v_ U'_.heap L_ ∧ FrameEnd U_ o_ U'_ L_ ({ frames := 0, cells := 0, slots := 0, locals := 0 } : Room).cells ({ frames := 0, cells := 0, slots := 0, locals := 0 } : Room).slots) := by
  refine MetFree.of_bodySF (plainFor_of_name pn_0) hisR ?_
  intro p e s m args below meth c s₁ Bd hml0 hP hK
  obtain ⟨rfl, hZ, hh⟩ := hP
  have hx := Bd.exec
  have hby := Bd.bytes
  have hml : c.maxLocals = 2 := hml0
  have hown : s.vm.findClass "com/example/kapu/kapu/service/Coverage$Part" = some m.cls := findClass_of_methodNamed Bd.named
  have hnm := (name_of_methodNamed Bd.named Bd.method).1
  have hlk := BodyLoose.notSynchronized Bd
  have X0 : Stand p l e ({ frames := 0, cells := 0, slots := 0, locals := 0 } : Room) s m #[(.ref a), (.int (0 : Int32))] below meth c s₁ [] 0 0 := Stand.of_body Bd
  have e0 : s₁.heap = h0 := by rw [← hh, Bd.state]; rfl
  have N0 := Fr.nil n0
  refine own_entry (P := own_End s (QN Z a nm z t 1 h0 n0) ({ frames := 0, cells := 0, slots := 0, locals := 0 } : Room).cells ({ frames := 0, cells := 0, slots := 0, locals := 0 } : Room).slots) (ef_rmC0 m a (0 : Int32)) ?_
  show own_Go p e below _ s₁ (mkF m 0 #[.val (.ref a), .val (.int (0 : Int32))] [])
  refine own_st (fun t_ k_ => XS.iloadN X0.here hx rfl (hb hby d2_0) rfl k_) ?_
  show own_Go p e below _ s₁ (mkF m 1 #[.val (.ref a), .val (.int (0 : Int32))] [(.int (0 : Int32))])
  refine own_st (fun t_ k_ => XS.ifYes X0.here hx rfl (pc0 := 1) (pc' := 12) rfl (hb hby d2_1) rfl (by decide) (by decide) (by decide) k_) ?_
  show own_Go p e below _ s₁ (mkF m 12 #[.val (.ref a), .val (.int (0 : Int32))] [])
  refine own_st (fun t_ k_ => XS.aloadN X0.here hx rfl (hb hby d2_12) rfl rfl k_) ?_
  show own_Go p e below _ s₁ (mkF m 13 #[.val (.ref a), .val (.int (0 : Int32))] [(.ref a)])
  refine own_st (fun t_ k_ => XS.iconst X0.here hx rfl (hb hby d2_13) k_) ?_
  show own_Go p e below _ s₁ (mkF m 14 #[.val (.ref a), .val (.int (0 : Int32))] [(.int (1 : Int32)), (.ref a)])
  obtain ⟨T1, h1, X1, e1, W1, st1⟩ := putFN X0 hx hZ hown (hw _ (List.mem_of_getElem? (i := 48) rfl)) Via.refl e0 F3 Ea (Or.inl (hw _ (List.mem_of_getElem? (i := 49) rfl))) (hw _ (List.mem_of_getElem? (i := 2) rfl)) (ty := .boolean) (v' := (.int (1 : Int32))) (by decide) rfl (by decide) (g := (mkF m 14 #[.val (.ref a), .val (.int (0 : Int32))] [(.int (1 : Int32)), (.ref a)])) rfl rfl (hb hby d2_14)
  refine own_st st1 ?_
  have N1 := Fr.snoc X1 N0 g_a
  have K1 : Keep h0 h1 [a] := (Keep.refl h0 [a]).wr W1 (Or.inl (List.mem_of_getElem? (i := 0) rfl))
  have Fw1 := Fld.same W1 F3
  show own_Go p e below _ T1 (mkF m 17 #[.val (.ref a), .val (.int (0 : Int32))] [])
  have f2 := (Exa.wr W1 Ea)
  have f3 := (Fld.other W1 F0 (Or.inr (slot_ne (Or.inr (hw _ (List.mem_of_getElem? (i := 38) rfl))) (Or.inl (hw _ (List.mem_of_getElem? (i := 49) rfl))) (by decide) (t := (.object "java/lang/String")) (t' := .boolean) (by decide) (by decide))))
  have f4 := (Fld.other W1 F1 (Or.inr (slot_ne (Or.inr (hw _ (List.mem_of_getElem? (i := 40) rfl))) (Or.inl (hw _ (List.mem_of_getElem? (i := 49) rfl))) (by decide) (t := .boolean) (t' := .boolean) (by decide) (by decide))))
  have f5 := (Fld.other W1 F2 (Or.inr (slot_ne (Or.inl (hw _ (List.mem_of_getElem? (i := 47) rfl))) (Or.inl (hw _ (List.mem_of_getElem? (i := 49) rfl))) (by decide) (t := .boolean) (t' := .boolean) (by decide) (by decide))))
  refine own_ret0 X1 hx hlk Bd.returns (hb hby d2_17) ?_ (by decide) (by decide)
  show QN Z a nm z t 1 h0 n0 _ T1.heap _
  rw [e1]
  exact ⟨rfl, N1, K1, f2, f3, f4, f5, Fw1⟩
def QR (r : Value) (h0 : Heap) (n0 : Nat) (v : Option Value) (h : Heap) (L : List Loc) : Prop := v = some r ∧ Fr n0 L ∧ h = h0
theorem d3_0 : decode prog_96_method_4_code 0 = .ok (.iload_n 1, 1) := by decide +kernel
theorem d3_1 : decode prog_96_method_4_code 1 = .ok (.ifCond .eq 10, 3) := by decide +kernel
theorem d3_4 : decode prog_96_method_4_code 4 = .ok (.aload_n 0, 1) := by decide +kernel
theorem d3_5 : decode prog_96_method_4_code 5 = .ok (.getfield 17, 3) := by decide +kernel
theorem d3_8 : decode prog_96_method_4_code 8 = .ok (.goto 7, 3) := by decide +kernel
theorem d3_15 : decode prog_96_method_4_code 15 = .ok (.ireturn, 1) := by decide +kernel
theorem ef_rmV1 (m : MethodId) (x0 : Addr) (x1 : Int32) : entryFrame m #[(.ref x0), (.int x1)] 2 = mkF m 0 #[.val (.ref x0), .val (.int x1)] [] := by first | (simp [entryFrame, mkF, argsToLocals, Value.category]; done) | rfl
set_option maxRecDepth 65536 in
set_option maxHeartbeats 40000000 in
theorem rmV1 (l : Launch) (Z : State) (a0 : Array Value) (hw : ∀ d ∈ tables_1, d.before a0 Z = true) (ws : List Jvm.Cond) (a : Addr) (t : Int32) (h0 : Heap) (n0 : Nat) (Z0 : n0 ≤ h0.size) (F : Fld Z h0 a "com/example/kapu/kapu/service/Coverage$Part" "coveredTrue" "Z" (.int t)) (ht : nar .boolean t = t) :
    MetFree l (⟨"com/example/kapu/kapu/service/Coverage$Part", "isCovered", "(Z)Z"⟩ : MethodName) (head1 (Jvm.Cond.code (⟨"com/example/kapu/kapu/service/Coverage$Part", "isCovered", "(Z)Z"⟩ : MethodName) prog_96_method_4_code 2 (some .boolean) :: ws) ({ frames := 0, cells := 0, slots := 0, locals := 0 } : Room)) (fun a_ U_ => a_ = #[(.ref a), (.int (1 : Int32))] ∧ Z.Warmed39 U_.vm ∧ U_.heap = h0) (fun _ _ _ _ _ => True) (fun _ U_ o_ U'_ => ∃ v_ L_, o_ = .returned v_ ∧ QR (.int t) h0 n0 v_ U'_.heap L_ ∧ FrameEnd U_ o_ U'_ L_ ({ frames := 0, cells := 0, slots := 0, locals := 0 } : Room).cells ({ frames := 0, cells := 0, slots := 0, locals := 0 } : Room).slots) := by
  refine MetFree.of_bodySF (plainFor_of_name pn_0) hisR ?_
  intro p e s m args below meth c s₁ Bd hml0 hP hK
  obtain ⟨rfl, hZ, hh⟩ := hP
  have hx := Bd.exec
  have hby := Bd.bytes
  have hml : c.maxLocals = 2 := hml0
  have hown : s.vm.findClass "com/example/kapu/kapu/service/Coverage$Part" = some m.cls := findClass_of_methodNamed Bd.named
  have hnm := (name_of_methodNamed Bd.named Bd.method).1
  have hlk := BodyLoose.notSynchronized Bd
  have X0 : Stand p l e ({ frames := 0, cells := 0, slots := 0, locals := 0 } : Room) s m #[(.ref a), (.int (1 : Int32))] below meth c s₁ [] 0 0 := Stand.of_body Bd
  have e0 : s₁.heap = h0 := by rw [← hh, Bd.state]; rfl
  have N0 := Fr.nil n0
  refine own_entry (P := own_End s (QR (.int t) h0 n0) ({ frames := 0, cells := 0, slots := 0, locals := 0 } : Room).cells ({ frames := 0, cells := 0, slots := 0, locals := 0 } : Room).slots) (ef_rmV1 m a (1 : Int32)) ?_
  show own_Go p e below _ s₁ (mkF m 0 #[.val (.ref a), .val (.int (1 : Int32))] [])
  refine own_st (fun t_ k_ => XS.iloadN X0.here hx rfl (hb hby d3_0) rfl k_) ?_
  show own_Go p e below _ s₁ (mkF m 1 #[.val (.ref a), .val (.int (1 : Int32))] [(.int (1 : Int32))])
  refine own_st (fun t_ k_ => XS.ifNo X0.here hx rfl (hb hby d3_1) rfl (by decide) k_) ?_
  show own_Go p e below _ s₁ (mkF m 4 #[.val (.ref a), .val (.int (1 : Int32))] [])
  refine own_st (fun t_ k_ => XS.aloadN X0.here hx rfl (hb hby d3_4) rfl rfl k_) ?_
  show own_Go p e below _ s₁ (mkF m 5 #[.val (.ref a), .val (.int (1 : Int32))] [(.ref a)])
  obtain ⟨T1, X1, e1, st1⟩ := getF X0 hx hZ hown (host := "") (Or.inl (hw _ (List.mem_of_getElem? (i := 46) rfl))) Via.refl e0 F (g := (mkF m 5 #[.val (.ref a), .val (.int (1 : Int32))] [(.ref a)])) rfl rfl (hb hby d3_5)
  refine own_st st1 ?_
  show own_Go p e below _ T1 (mkF m 8 #[.val (.ref a), .val (.int (1 : Int32))] [(.int t)])
  refine own_st (fun t_ k_ => XS.goto X1.here hx rfl (pc0 := 8) (pc' := 15) rfl (hb hby d3_8) (by decide) (by decide) k_) ?_
  show own_Go p e below _ T1 (mkF m 15 #[.val (.ref a), .val (.int (1 : Int32))] [(.int t)])
  refine own_retN X1 hx hlk (t := .boolean) Bd.returns (by simp) (hb hby d3_15) ?_ (by decide) (by decide)
  show QR (.int t) h0 n0 _ T1.heap _
  rw [e1]
  exact ⟨by rw [ht], N0, rfl⟩
theorem d3_11 : decode prog_96_method_4_code 11 = .ok (.aload_n 0, 1) := by decide +kernel
theorem d3_12 : decode prog_96_method_4_code 12 = .ok (.getfield 20, 3) := by decide +kernel
theorem ef_rmV0 (m : MethodId) (x0 : Addr) (x1 : Int32) : entryFrame m #[(.ref x0), (.int x1)] 2 = mkF m 0 #[.val (.ref x0), .val (.int x1)] [] := by first | (simp [entryFrame, mkF, argsToLocals, Value.category]; done) | rfl
set_option maxRecDepth 65536 in
set_option maxHeartbeats 40000000 in
theorem rmV0 (l : Launch) (Z : State) (a0 : Array Value) (hw : ∀ d ∈ tables_1, d.before a0 Z = true) (ws : List Jvm.Cond) (a : Addr) (t : Int32) (h0 : Heap) (n0 : Nat) (Z0 : n0 ≤ h0.size) (F : Fld Z h0 a "com/example/kapu/kapu/service/Coverage$Part" "coveredFalse" "Z" (.int t)) (ht : nar .boolean t = t) :
    MetFree l (⟨"com/example/kapu/kapu/service/Coverage$Part", "isCovered", "(Z)Z"⟩ : MethodName) (head1 (Jvm.Cond.code (⟨"com/example/kapu/kapu/service/Coverage$Part", "isCovered", "(Z)Z"⟩ : MethodName) prog_96_method_4_code 2 (some .boolean) :: ws) ({ frames := 0, cells := 0, slots := 0, locals := 0 } : Room)) (fun a_ U_ => a_ = #[(.ref a), (.int (0 : Int32))] ∧ Z.Warmed39 U_.vm ∧ U_.heap = h0) (fun _ _ _ _ _ => True) (fun _ U_ o_ U'_ => ∃ v_ L_, o_ = .returned v_ ∧ QR (.int t) h0 n0 v_ U'_.heap L_ ∧ FrameEnd U_ o_ U'_ L_ ({ frames := 0, cells := 0, slots := 0, locals := 0 } : Room).cells ({ frames := 0, cells := 0, slots := 0, locals := 0 } : Room).slots) := by
  refine MetFree.of_bodySF (plainFor_of_name pn_0) hisR ?_
  intro p e s m args below meth c s₁ Bd hml0 hP hK
  obtain ⟨rfl, hZ, hh⟩ := hP
  have hx := Bd.exec
  have hby := Bd.bytes
  have hml : c.maxLocals = 2 := hml0
  have hown : s.vm.findClass "com/example/kapu/kapu/service/Coverage$Part" = some m.cls := findClass_of_methodNamed Bd.named
  have hnm := (name_of_methodNamed Bd.named Bd.method).1
  have hlk := BodyLoose.notSynchronized Bd
  have X0 : Stand p l e ({ frames := 0, cells := 0, slots := 0, locals := 0 } : Room) s m #[(.ref a), (.int (0 : Int32))] below meth c s₁ [] 0 0 := Stand.of_body Bd
  have e0 : s₁.heap = h0 := by rw [← hh, Bd.state]; rfl
  have N0 := Fr.nil n0
  refine own_entry (P := own_End s (QR (.int t) h0 n0) ({ frames := 0, cells := 0, slots := 0, locals := 0 } : Room).cells ({ frames := 0, cells := 0, slots := 0, locals := 0 } : Room).slots) (ef_rmV0 m a (0 : Int32)) ?_
  show own_Go p e below _ s₁ (mkF m 0 #[.val (.ref a), .val (.int (0 : Int32))] [])
  refine own_st (fun t_ k_ => XS.iloadN X0.here hx rfl (hb hby d3_0) rfl k_) ?_
  show own_Go p e below _ s₁ (mkF m 1 #[.val (.ref a), .val (.int (0 : Int32))] [(.int (0 : Int32))])
  refine own_st (fun t_ k_ => XS.ifYes X0.here hx rfl (pc0 := 1) (pc' := 11) rfl (hb hby d3_1) rfl (by decide) (by decide) (by decide) k_) ?_
  show own_Go p e below _ s₁ (mkF m 11 #[.val (.ref a), .val (.int (0 : Int32))] [])
  refine own_st (fun t_ k_ => XS.aloadN X0.here hx rfl (hb hby d3_11) rfl rfl k_) ?_
  show own_Go p e below _ s₁ (mkF m 12 #[.val (.ref a), .val (.int (0 : Int32))] [(.ref a)])
  obtain ⟨T1, X1, e1, st1⟩ := getF X0 hx hZ hown (host := "") (Or.inl (hw _ (List.mem_of_getElem? (i := 48) rfl))) Via.refl e0 F (g := (mkF m 12 #[.val (.ref a), .val (.int (0 : Int32))] [(.ref a)])) rfl rfl (hb hby d3_12)
  refine own_st st1 ?_
  show own_Go p e below _ T1 (mkF m 15 #[.val (.ref a), .val (.int (0 : Int32))] [(.int t)])
  refine own_retN X1 hx hlk (t := .boolean) Bd.returns (by simp) (hb hby d3_15) ?_ (by decide) (by decide)
  show QR (.int t) h0 n0 _ T1.heap _
  rw [e1]
  exact ⟨by rw [ht], N0, rfl⟩
def Q0 (n0 : Nat) (v : Option Value) (h : Heap) (L : List Loc) : Prop := v = some (.int 1) ∧ Fr n0 L
theorem own_and3 (x : Int32) : x &&& (3 : Int32) = (0 : Int32) ∨ x &&& (3 : Int32) = (1 : Int32) ∨ x &&& (3 : Int32) = (2 : Int32) ∨ x &&& (3 : Int32) = (3 : Int32) := by
  have h := c_and x (3 : Int32) (by decide)
  have e : (3 : Int32).toInt = 3 := rfl
  have h3 : (x &&& (3 : Int32)).toInt = 0 ∨ (x &&& (3 : Int32)).toInt = 1 ∨ (x &&& (3 : Int32)).toInt = 2 ∨ (x &&& (3 : Int32)).toInt = 3 := by omega
  simp only [← Int32.toInt_inj]
  exact h3
theorem pd_0 : parseMethodDescriptor "([C)V" = some ⟨[(.array .char)], none⟩ := by decide +kernel
theorem pd_1 : parseMethodDescriptor "(Ljava/lang/String;Z)V" = some ⟨[(.object "java/lang/String"), .boolean], none⟩ := by decide +kernel
theorem pd_2 : parseMethodDescriptor "(Z)Z" = some ⟨[.boolean], some .boolean⟩ := by decide +kernel
theorem pd_3 : parseMethodDescriptor "(Z)V" = some ⟨[.boolean], none⟩ := by decide +kernel
theorem pn_1 : plainName "com/example/kapu/kapu/service/PartIsCoveredPinLaw" = true := by first | (simp [plainName, overriddenIn]; done) | decide +kernel
theorem ef_rm0 (m : MethodId) (x0 : Int32) (x1 : Int32) (x2 : Int32) (x3 : Int32) : entryFrame m #[(.int x0), (.int x1), (.int x2), (.int x3)] maxLocals = mkF m 0 #[.val (.int x0), .val (.int x1), .val (.int x2), .val (.int x3), .unset, .unset, .unset, .unset, .unset, .unset, .unset, .unset, .unset, .unset, .unset] [] := by first | (simp [entryFrame, mkF, argsToLocals, Value.category, maxLocals]; done) | rfl
set_option maxRecDepth 65536 in
set_option maxHeartbeats 40000000 in
theorem rm0 (l : Launch) (Z : State) (a0 : Array Value) (hw : ∀ d ∈ tables_1, d.before a0 Z = true) (ws : List Jvm.Cond) (ops c0 c1 flags G : Int32) (h0 : Heap) (n0 : Nat) (Z0 : n0 ≤ h0.size) (SC : Sta Z Z.heap "java/lang/String" "COMPACT_STRINGS" "Z" (.int G)) (hCS : ¬ G = 0) (O0 : Old Z n0 h0) :
    MetFree l x (head1 (Jvm.Cond.code x code maxLocals ret :: ws) room_1) (fun a_ U_ => a_ = #[(.int ops), (.int c0), (.int c1), (.int flags)] ∧ Z.Warmed39 U_.vm ∧ U_.heap = h0) (fun _ _ _ _ _ => True) (fun _ U_ o_ U'_ => ∃ v_ L_, o_ = .returned v_ ∧ Q0 n0 v_ U'_.heap L_ ∧ FrameEnd U_ o_ U'_ L_ 16 128) := by
  refine MetFree.of_bodySF (plainFor_of_name pn_1) hisR ?_
  intro p e s m args below meth c s₁ Bd hml0 hP hK
  obtain ⟨rfl, hZ, hh⟩ := hP
  have hx := Bd.exec
  have hby := Bd.bytes
  have hml : c.maxLocals = 15 := hml0
  have hown : s.vm.findClass "com/example/kapu/kapu/service/PartIsCoveredPinLaw" = some m.cls := findClass_of_methodNamed Bd.named
  have hnm := (name_of_methodNamed Bd.named Bd.method).1
  have hlk := BodyLoose.notSynchronized Bd
  have X0 : Stand p l e room_1 s m #[(.int ops), (.int c0), (.int c1), (.int flags)] below meth c s₁ [] 0 0 := Stand.of_body Bd
  have e0 : s₁.heap = h0 := by rw [← hh, Bd.state]; rfl
  have N0 := Fr.nil n0
  refine own_entry (P := own_End s (Q0 n0) 16 128) (ef_rm0 m ops c0 c1 flags) ?_
  show own_Go p e below _ s₁ (mkF m 0 #[.val (.int ops), .val (.int c0), .val (.int c1), .val (.int flags), .unset, .unset, .unset, .unset, .unset, .unset, .unset, .unset, .unset, .unset, .unset] [])
  refine own_st (fun t_ k_ => XS.iconst X0.here hx rfl (hb hby at_0) k_) ?_
  show own_Go p e below _ s₁ (mkF m 1 #[.val (.int ops), .val (.int c0), .val (.int c1), .val (.int flags), .unset, .unset, .unset, .unset, .unset, .unset, .unset, .unset, .unset, .unset, .unset] [(.int (2 : Int32))])
  obtain ⟨T1, h1, k1, X1, e1, E1, A1, st1⟩ := newP X0 hx hZ (hw _ (List.mem_of_getElem? (i := 0) rfl)) e0 (g := (mkF m 1 #[.val (.int ops), .val (.int c0), .val (.int c1), .val (.int flags), .unset, .unset, .unset, .unset, .unset, .unset, .unset, .unset, .unset, .unset, .unset] [(.int (2 : Int32))])) rfl (hb hby at_1) rfl (by decide) (cap := 2) (by decide) (by decide) (by decide) (by decide)
  obtain ⟨nb1, g1⟩ : ∃ z, z = h0.size := ⟨_, rfl⟩
  rw [← g1] at A1 st1
  refine own_st st1 ?_
  have g_nb1 : n0 ≤ nb1 := Nat.le_trans (Nat.le_trans Z0 (Keep.refl h0 []).1) (Nat.le_of_eq g1.symm)
  have K1 : Keep h0 h1 [] := (Keep.refl h0 []).ext E1
  have sz_nb1 : h0.size ≤ nb1 := Nat.le_trans (Keep.refl h0 []).1 (Nat.le_of_eq g1.symm)
  have V1 : Arv Z h1 nb1 k1 .char (2 : Int32) [(.int (0 : Int32)), (.int (0 : Int32))] (.int (0 : Int32)) := (Arv.new A1 (by decide)).pad (pad_rep [] (.int (0 : Int32)) 2)
  show own_Go p e below _ T1 (mkF m 3 #[.val (.int ops), .val (.int c0), .val (.int c1), .val (.int flags), .unset, .unset, .unset, .unset, .unset, .unset, .unset, .unset, .unset, .unset, .unset] [(.ref nb1)])
  refine own_st (fun t_ k_ => XS.dup X1.here hx rfl (hb hby at_3) rfl rfl k_) ?_
  show own_Go p e below _ T1 (mkF m 4 #[.val (.int ops), .val (.int c0), .val (.int c1), .val (.int flags), .unset, .unset, .unset, .unset, .unset, .unset, .unset, .unset, .unset, .unset, .unset] [(.ref nb1), (.ref nb1)])
  refine own_st (fun t_ k_ => XS.iconst X1.here hx rfl (hb hby at_4) k_) ?_
  show own_Go p e below _ T1 (mkF m 5 #[.val (.int ops), .val (.int c0), .val (.int c1), .val (.int flags), .unset, .unset, .unset, .unset, .unset, .unset, .unset, .unset, .unset, .unset, .unset] [(.int (0 : Int32)), (.ref nb1), (.ref nb1)])
  refine own_st (fun t_ k_ => XS.iloadN X1.here hx rfl (hb hby at_5) rfl k_) ?_
  show own_Go p e below _ T1 (mkF m 6 #[.val (.int ops), .val (.int c0), .val (.int c1), .val (.int flags), .unset, .unset, .unset, .unset, .unset, .unset, .unset, .unset, .unset, .unset, .unset] [(.int c0), (.int (0 : Int32)), (.ref nb1), (.ref nb1)])
  refine own_st (fun t_ k_ => XS.sipush X1.here hx rfl (hb hby at_6) k_) ?_
  show own_Go p e below _ T1 (mkF m 9 #[.val (.int ops), .val (.int c0), .val (.int c1), .val (.int flags), .unset, .unset, .unset, .unset, .unset, .unset, .unset, .unset, .unset, .unset, .unset] [(.int (255 : Int32)), (.int c0), (.int (0 : Int32)), (.ref nb1), (.ref nb1)])
  refine own_st (fun t_ k_ => XS.iand X1.here hx rfl (hb hby at_9) rfl k_) ?_
  show own_Go p e below _ T1 (mkF m 10 #[.val (.int ops), .val (.int c0), .val (.int c1), .val (.int flags), .unset, .unset, .unset, .unset, .unset, .unset, .unset, .unset, .unset, .unset, .unset] [(.int (c0 &&& (255 : Int32))), (.int (0 : Int32)), (.ref nb1), (.ref nb1)])
  refine own_st (fun t_ k_ => XS.i2c X1.here hx rfl (hb hby at_10) rfl k_) ?_
  show own_Go p e below _ T1 (mkF m 11 #[.val (.int ops), .val (.int c0), .val (.int c1), .val (.int flags), .unset, .unset, .unset, .unset, .unset, .unset, .unset, .unset, .unset, .unset, .unset] [(.int ((c0 &&& (255 : Int32)).toUInt32.toUInt16.toUInt32.toInt32)), (.int (0 : Int32)), (.ref nb1), (.ref nb1)])
  obtain ⟨cl2, Ar2, q2, S2, N2', H2, G2⟩ := V1
  have hin2 : ¬ ((0 : Int32) < 0 ∨ cl2.slots.size ≤ ((0 : Int32)).toNatClampNeg) := inb_of S2 ⟨by decide, by decide⟩
  obtain ⟨T2, h2, X2, e2, W2, st2⟩ := stC X1 hx hZ e1 Ar2 (j := (0 : Int32)) hin2 (g := (mkF m 11 #[.val (.int ops), .val (.int c0), .val (.int c1), .val (.int flags), .unset, .unset, .unset, .unset, .unset, .unset, .unset, .unset, .unset, .unset, .unset] [(.int ((c0 &&& (255 : Int32)).toUInt32.toUInt16.toUInt32.toInt32)), (.int (0 : Int32)), (.ref nb1), (.ref nb1)])) rfl rfl (hb hby at_11)
  have V2 : Arv Z h2 nb1 k1 .char (2 : Int32) [(.int (nar .char ((c0 &&& (255 : Int32)).toUInt32.toUInt16.toUInt32.toInt32))), (.int (0 : Int32))] (.int (0 : Int32)) := Arv.set Ar2 q2 S2 N2' H2 G2 (fits_nar_char _) W2 0 rfl (Nat.le_of_ble_eq_true rfl)
  refine own_st st2 ?_
  have N2 := Fr.snoc X2 N0 g_nb1
  have K2 : Keep h0 h2 [] := K1.wr W2 (Or.inr sz_nb1)
  show own_Go p e below _ T2 (mkF m 12 #[.val (.int ops), .val (.int c0), .val (.int c1), .val (.int flags), .unset, .unset, .unset, .unset, .unset, .unset, .unset, .unset, .unset, .unset, .unset] [(.ref nb1)])
  refine own_st (fun t_ k_ => XS.dup X2.here hx rfl (hb hby at_12) rfl rfl k_) ?_
  show own_Go p e below _ T2 (mkF m 13 #[.val (.int ops), .val (.int c0), .val (.int c1), .val (.int flags), .unset, .unset, .unset, .unset, .unset, .unset, .unset, .unset, .unset, .unset, .unset] [(.ref nb1), (.ref nb1)])
  refine own_st (fun t_ k_ => XS.iconst X2.here hx rfl (hb hby at_13) k_) ?_
  show own_Go p e below _ T2 (mkF m 14 #[.val (.int ops), .val (.int c0), .val (.int c1), .val (.int flags), .unset, .unset, .unset, .unset, .unset, .unset, .unset, .unset, .unset, .unset, .unset] [(.int (1 : Int32)), (.ref nb1), (.ref nb1)])
  refine own_st (fun t_ k_ => XS.iloadN X2.here hx rfl (hb hby at_14) rfl k_) ?_
  show own_Go p e below _ T2 (mkF m 15 #[.val (.int ops), .val (.int c0), .val (.int c1), .val (.int flags), .unset, .unset, .unset, .unset, .unset, .unset, .unset, .unset, .unset, .unset, .unset] [(.int c1), (.int (1 : Int32)), (.ref nb1), (.ref nb1)])
  refine own_st (fun t_ k_ => XS.sipush X2.here hx rfl (hb hby at_15) k_) ?_
  show own_Go p e below _ T2 (mkF m 18 #[.val (.int ops), .val (.int c0), .val (.int c1), .val (.int flags), .unset, .unset, .unset, .unset, .unset, .unset, .unset, .unset, .unset, .unset, .unset] [(.int (255 : Int32)), (.int c1), (.int (1 : Int32)), (.ref nb1), (.ref nb1)])
  refine own_st (fun t_ k_ => XS.iand X2.here hx rfl (hb hby at_18) rfl k_) ?_
  show own_Go p e below _ T2 (mkF m 19 #[.val (.int ops), .val (.int c0), .val (.int c1), .val (.int flags), .unset, .unset, .unset, .unset, .unset, .unset, .unset, .unset, .unset, .unset, .unset] [(.int (c1 &&& (255 : Int32))), (.int (1 : Int32)), (.ref nb1), (.ref nb1)])
  refine own_st (fun t_ k_ => XS.i2c X2.here hx rfl (hb hby at_19) rfl k_) ?_
  show own_Go p e below _ T2 (mkF m 20 #[.val (.int ops), .val (.int c0), .val (.int c1), .val (.int flags), .unset, .unset, .unset, .unset, .unset, .unset, .unset, .unset, .unset, .unset, .unset] [(.int ((c1 &&& (255 : Int32)).toUInt32.toUInt16.toUInt32.toInt32)), (.int (1 : Int32)), (.ref nb1), (.ref nb1)])
  obtain ⟨cl3, Ar3, q3, S3, N3', H3, G3⟩ := V2
  have hin3 : ¬ ((1 : Int32) < 0 ∨ cl3.slots.size ≤ ((1 : Int32)).toNatClampNeg) := inb_of S3 ⟨by decide, by decide⟩
  obtain ⟨T3, h3, X3, e3, W3, st3⟩ := stC X2 hx hZ e2 Ar3 (j := (1 : Int32)) hin3 (g := (mkF m 20 #[.val (.int ops), .val (.int c0), .val (.int c1), .val (.int flags), .unset, .unset, .unset, .unset, .unset, .unset, .unset, .unset, .unset, .unset, .unset] [(.int ((c1 &&& (255 : Int32)).toUInt32.toUInt16.toUInt32.toInt32)), (.int (1 : Int32)), (.ref nb1), (.ref nb1)])) rfl rfl (hb hby at_20)
  have V3 : Arv Z h3 nb1 k1 .char (2 : Int32) [(.int (nar .char ((c0 &&& (255 : Int32)).toUInt32.toUInt16.toUInt32.toInt32))), (.int (nar .char ((c1 &&& (255 : Int32)).toUInt32.toUInt16.toUInt32.toInt32)))] (.int (0 : Int32)) := Arv.set Ar3 q3 S3 N3' H3 G3 (fits_nar_char _) W3 1 rfl (Nat.le_of_ble_eq_true rfl)
  refine own_st st3 ?_
  have N3 := Fr.snoc X3 N2 g_nb1
  have K3 : Keep h0 h3 [] := K2.wr W3 (Or.inr sz_nb1)
  show own_Go p e below _ T3 (mkF m 21 #[.val (.int ops), .val (.int c0), .val (.int c1), .val (.int flags), .unset, .unset, .unset, .unset, .unset, .unset, .unset, .unset, .unset, .unset, .unset] [(.ref nb1)])
  refine own_st (fun t_ k_ => XS.astore X3.here hx rfl (hb hby at_21) rfl rfl (l' := #[.val (.int ops), .val (.int c0), .val (.int c1), .val (.int flags), .val (.ref nb1), .unset, .unset, .unset, .unset, .unset, .unset, .unset, .unset, .unset, .unset]) rfl k_) ?_
  show own_Go p e below _ T3 (mkF m 23 #[.val (.int ops), .val (.int c0), .val (.int c1), .val (.int flags), .val (.ref nb1), .unset, .unset, .unset, .unset, .unset, .unset, .unset, .unset, .unset, .unset] [])
  obtain ⟨T4, h4, X4, e4, E4, A4, D4, cel4, st4⟩ := newO X3 hx hZ hown (hw _ (List.mem_of_getElem? (i := 1) rfl)) (hw _ (List.mem_of_getElem? (i := 2) rfl)) (hw _ (List.mem_of_getElem? (i := 3) rfl)) e3 (g := (mkF m 23 #[.val (.int ops), .val (.int c0), .val (.int c1), .val (.int flags), .val (.ref nb1), .unset, .unset, .unset, .unset, .unset, .unset, .unset, .unset, .unset, .unset] [])) rfl (hb hby at_23) (by decide) (by decide)
  obtain ⟨nb4, g4⟩ : ∃ z, z = h3.size := ⟨_, rfl⟩
  rw [← g4] at A4 D4 cel4 st4
  refine own_st st4 ?_
  have g_nb4 : n0 ≤ nb4 := Nat.le_trans (Nat.le_trans Z0 K3.1) (Nat.le_of_eq g4.symm)
  have K4 : Keep h0 h4 [] := K3.ext E4
  have sz_nb4 : h0.size ≤ nb4 := Nat.le_trans K3.1 (Nat.le_of_eq g4.symm)
  have F4_name : Fld Z h4 nb4 "com/example/kapu/kapu/service/Coverage$Part" "name" "Ljava/lang/String;" .null := D4 (Or.inr (hw _ (List.mem_of_getElem? (i := 38) rfl))) (ty := (.object "java/lang/String")) (by decide)
  have F4_condition : Fld Z h4 nb4 "com/example/kapu/kapu/service/Coverage$Part" "condition" "Z" (.int (0 : Int32)) := D4 (Or.inr (hw _ (List.mem_of_getElem? (i := 40) rfl))) (ty := .boolean) (by decide)
  have F4_coveredTrue : Fld Z h4 nb4 "com/example/kapu/kapu/service/Coverage$Part" "coveredTrue" "Z" (.int (0 : Int32)) := D4 (Or.inl (hw _ (List.mem_of_getElem? (i := 47) rfl))) (ty := .boolean) (by decide)
  have F4_coveredFalse : Fld Z h4 nb4 "com/example/kapu/kapu/service/Coverage$Part" "coveredFalse" "Z" (.int (0 : Int32)) := D4 (Or.inl (hw _ (List.mem_of_getElem? (i := 49) rfl))) (ty := .boolean) (by decide)
  show own_Go p e below _ T4 (mkF m 26 #[.val (.int ops), .val (.int c0), .val (.int c1), .val (.int flags), .val (.ref nb1), .unset, .unset, .unset, .unset, .unset, .unset, .unset, .unset, .unset, .unset] [(.ref nb4)])
  refine own_st (fun t_ k_ => XS.dup X4.here hx rfl (hb hby at_26) rfl rfl k_) ?_
  show own_Go p e below _ T4 (mkF m 27 #[.val (.int ops), .val (.int c0), .val (.int c1), .val (.int flags), .val (.ref nb1), .unset, .unset, .unset, .unset, .unset, .unset, .unset, .unset, .unset, .unset] [(.ref nb4), (.ref nb4)])
  obtain ⟨T5, h5, X5, e5, E5, A5, D5, cel5, st5⟩ := newO X4 hx hZ hown (hw _ (List.mem_of_getElem? (i := 4) rfl)) (hw _ (List.mem_of_getElem? (i := 5) rfl)) (hw _ (List.mem_of_getElem? (i := 6) rfl)) e4 (g := (mkF m 27 #[.val (.int ops), .val (.int c0), .val (.int c1), .val (.int flags), .val (.ref nb1), .unset, .unset, .unset, .unset, .unset, .unset, .unset, .unset, .unset, .unset] [(.ref nb4), (.ref nb4)])) rfl (hb hby at_27) (by decide) (by decide)
  obtain ⟨nb5, g5⟩ : ∃ z, z = h4.size := ⟨_, rfl⟩
  rw [← g5] at A5 D5 cel5 st5
  refine own_st st5 ?_
  have g_nb5 : n0 ≤ nb5 := Nat.le_trans (Nat.le_trans Z0 K4.1) (Nat.le_of_eq g5.symm)
  have K5 : Keep h0 h5 [] := K4.ext E5
  have sz_nb5 : h0.size ≤ nb5 := Nat.le_trans K4.1 (Nat.le_of_eq g5.symm)
  have F5_coder : Fld Z h5 nb5 "java/lang/String" "coder" "B" (.int (0 : Int32)) := D5 (Or.inr (hw _ (List.mem_of_getElem? (i := 30) rfl))) (ty := .byte) (by decide)
  have F5_value : Fld Z h5 nb5 "java/lang/String" "value" "[B" .null := D5 (Or.inr (hw _ (List.mem_of_getElem? (i := 32) rfl))) (ty := (.array .byte)) (by decide)
  show own_Go p e below _ T5 (mkF m 30 #[.val (.int ops), .val (.int c0), .val (.int c1), .val (.int flags), .val (.ref nb1), .unset, .unset, .unset, .unset, .unset, .unset, .unset, .unset, .unset, .unset] [(.ref nb5), (.ref nb4), (.ref nb4)])
  refine own_st (fun t_ k_ => XS.dup X5.here hx rfl (hb hby at_30) rfl rfl k_) ?_
  show own_Go p e below _ T5 (mkF m 31 #[.val (.int ops), .val (.int c0), .val (.int c1), .val (.int flags), .val (.ref nb1), .unset, .unset, .unset, .unset, .unset, .unset, .unset, .unset, .unset, .unset] [(.ref nb5), (.ref nb5), (.ref nb4), (.ref nb4)])
  refine own_st (fun t_ k_ => XS.aload X5.here hx rfl (hb hby at_31) rfl rfl k_) ?_
  show own_Go p e below _ T5 (mkF m 33 #[.val (.int ops), .val (.int c0), .val (.int c1), .val (.int flags), .val (.ref nb1), .unset, .unset, .unset, .unset, .unset, .unset, .unset, .unset, .unset, .unset] [(.ref nb1), (.ref nb5), (.ref nb5), (.ref nb4), (.ref nb4)])
  have hp6 : ∀ c ∈ ([(nar .char ((c0 &&& (255 : Int32)).toUInt32.toUInt16.toUInt32.toInt32)), (nar .char ((c1 &&& (255 : Int32)).toUInt32.toUInt16.toUInt32.toInt32))] : List Int32), ¬ c < 0 ∧ ¬ (255 : Int32) < c := (own_lcons (own_and255 c0) (own_lcons (own_and255 c1) own_lnil))
  have f7 := (V3.ext E4)
  have f8 := (f7.ext E5)
  have f9 := (O0.ext E1)
  have f10 := (f9.wr W2 g_nb1)
  have f11 := (f10.wr W3 g_nb1)
  have f12 := (f11.ext E4)
  have f13 := (f12.ext E5)
  refine own_callN X5 hx (y := (⟨"java/lang/String", "<init>", "([C)V"⟩ : MethodName)) rfl hown (mvT hZ (hw _ (List.mem_of_getElem? (i := 7) rfl))) (mvT hZ (hw _ (List.mem_of_getElem? (i := 8) rfl))) (mvT hZ (hw _ (List.mem_of_getElem? (i := 9) rfl))) (by decide) (StrChars.Road.backV (W := 3) hZ (own_words hw) (kI := 4) (hw _ (List.mem_of_getElem? (i := 5) rfl)) (cs := ([(nar .char ((c0 &&& (255 : Int32)).toUInt32.toUInt16.toUInt32.toInt32)), (nar .char ((c1 &&& (255 : Int32)).toUInt32.toUInt16.toUInt32.toInt32))] : List Int32)) (bs := ([(nar .char ((c0 &&& (255 : Int32)).toUInt32.toUInt16.toUInt32.toInt32)), (nar .char ((c1 &&& (255 : Int32)).toUInt32.toUInt16.toUInt32.toInt32))] : List Int32).map (fun c => c.toInt8.toInt32)) (n := 2) g_nb5 (Nat.le_trans Z0 K5.1) A5 F5_value F5_coder f8 (Sta.ext f13.2 SC) hCS rfl rfl (by decide) (by decide) hp6 rfl (by decide) (by decide)) (a := nb5) (g := (mkF m 33 #[.val (.int ops), .val (.int c0), .val (.int c1), .val (.int flags), .val (.ref nb1), .unset, .unset, .unset, .unset, .unset, .unset, .unset, .unset, .unset, .unset] [(.ref nb1), (.ref nb5), (.ref nb5), (.ref nb4), (.ref nb4)])) rfl (by rw [hml]; rfl) (argsL := [(.ref nb1)]) (rest := [(.ref nb5), (.ref nb4), (.ref nb4)]) (lenOf pd_0 rfl) rfl (by show 2 * 0 + _ ≤ _; exact Nat.le_of_eq rfl) (hb hby at_33) rfl e5 (by decide) (by decide) ?_
  rintro v6 T6 L6 X6 ⟨rfl, Nq6, Kq6, Eq6, Cq6, t6, kb6, g_t6, gt6, nt6, Vq6, Aq6⟩
  have sz_t6 : h0.size ≤ t6 := Nat.le_trans K5.1 gt6
  have N6 := Fr.app N3 Nq6
  have K6 : Keep h0 T6.heap [] := K5.trans Kq6 (allS (Or.inr sz_nb5) all0)
  show own_Go p e below _ T6 (mkF m 36 #[.val (.int ops), .val (.int c0), .val (.int c1), .val (.int flags), .val (.ref nb1), .unset, .unset, .unset, .unset, .unset, .unset, .unset, .unset, .unset, .unset] [(.ref nb5), (.ref nb4), (.ref nb4)])
  refine own_st (fun t_ k_ => XS.iloadN X6.here hx rfl (hb hby at_36) rfl k_) ?_
  show own_Go p e below _ T6 (mkF m 37 #[.val (.int ops), .val (.int c0), .val (.int c1), .val (.int flags), .val (.ref nb1), .unset, .unset, .unset, .unset, .unset, .unset, .unset, .unset, .unset, .unset] [(.int flags), (.ref nb5), (.ref nb4), (.ref nb4)])
  refine own_st (fun t_ k_ => XS.iconst X6.here hx rfl (hb hby at_37) k_) ?_
  show own_Go p e below _ T6 (mkF m 38 #[.val (.int ops), .val (.int c0), .val (.int c1), .val (.int flags), .val (.ref nb1), .unset, .unset, .unset, .unset, .unset, .unset, .unset, .unset, .unset, .unset] [(.int (1 : Int32)), (.int flags), (.ref nb5), (.ref nb4), (.ref nb4)])
  refine own_st (fun t_ k_ => XS.iand X6.here hx rfl (hb hby at_38) rfl k_) ?_
  show own_Go p e below _ T6 (mkF m 39 #[.val (.int ops), .val (.int c0), .val (.int c1), .val (.int flags), .val (.ref nb1), .unset, .unset, .unset, .unset, .unset, .unset, .unset, .unset, .unset, .unset] [(.int (flags &&& (1 : Int32))), (.ref nb5), (.ref nb4), (.ref nb4)])
  refine own_join (α := Int32) (F := fun bz => bz = (0 : Int32) ∨ bz = (1 : Int32)) (T' := T6) (g' := fun bz => (mkF m 47 #[.val (.int ops), .val (.int c0), .val (.int c1), .val (.int flags), .val (.ref nb1), .unset, .unset, .unset, .unset, .unset, .unset, .unset, .unset, .unset, .unset] [(.int bz), (.ref nb5), (.ref nb4), (.ref nb4)])) (fun bz h_bz => ?_) (fun J_bz => ?_)
  · show own_Go p e below _ T6 (mkF m 47 #[.val (.int ops), .val (.int c0), .val (.int c1), .val (.int flags), .val (.ref nb1), .unset, .unset, .unset, .unset, .unset, .unset, .unset, .unset, .unset, .unset] [(.int bz), (.ref nb5), (.ref nb4), (.ref nb4)])
    have f15 := (Fld.ext E5 F4_name)
    have ne16 : nb4 ≠ nb5 := (Nat.ne_of_lt (Nat.lt_of_lt_of_le A4.lt (Nat.le_of_eq g5.symm)))
    have f17 := (f15.keep Kq6 (ninS ne16 nin0))
    have f18 := (Fld.ext E5 F4_condition)
    have f19 := (f18.keep Kq6 (ninS ne16 nin0))
    have f20 := (Fld.ext E5 F4_coveredTrue)
    have f21 := (f20.keep Kq6 (ninS ne16 nin0))
    have f22 := (Fld.ext E5 F4_coveredFalse)
    have f23 := (f22.keep Kq6 (ninS ne16 nin0))
    have f24 := (Exa.ext E5 A4)
    have f25 := (f24.keep Kq6)
    refine own_callN X6 hx (y := (⟨"com/example/kapu/kapu/service/Coverage$Part", "<init>", "(Ljava/lang/String;Z)V"⟩ : MethodName)) rfl hown (mvT hZ (hw _ (List.mem_of_getElem? (i := 33) rfl))) (mvT hZ (hw _ (List.mem_of_getElem? (i := 34) rfl))) (mvT hZ (hw _ (List.mem_of_getElem? (i := 35) rfl))) (by decide) (backOf (W := 1) (rmN l Z a0 hw [] nb4 nb5 bz T6.heap n0 (Nat.le_trans Z0 K6.1) g_nb4 f25 f17 f19 f21 f23 h_bz) hZ (hw _ (List.mem_of_getElem? (i := 35) rfl)) (hw _ (List.mem_of_getElem? (i := 3) rfl)) (by decide) (by decide)) (a := nb4) (g := (mkF m 47 #[.val (.int ops), .val (.int c0), .val (.int c1), .val (.int flags), .val (.ref nb1), .unset, .unset, .unset, .unset, .unset, .unset, .unset, .unset, .unset, .unset] [(.int bz), (.ref nb5), (.ref nb4), (.ref nb4)])) rfl (by rw [hml]; rfl) (argsL := [(.ref nb5), (.int bz)]) (rest := [(.ref nb4)]) (lenOf pd_1 rfl) rfl (by show 2 * 0 + _ ≤ _; exact Nat.le_of_eq rfl) (hb hby at_47) rfl rfl (by decide) (by decide) ?_
    rintro v26 T26 L26 X26 ⟨rfl, Nq26, Kq26, Eq26, Fq26_0, Fq26_1, Fq26_2, Fq26_3⟩
    have N26 := Fr.app N6 Nq26
    have K26 : Keep h0 T26.heap [] := K6.trans Kq26 (allS (Or.inr sz_nb4) all0)
    show own_Go p e below _ T26 (mkF m 50 #[.val (.int ops), .val (.int c0), .val (.int c1), .val (.int flags), .val (.ref nb1), .unset, .unset, .unset, .unset, .unset, .unset, .unset, .unset, .unset, .unset] [(.ref nb4)])
    refine own_st (fun t_ k_ => XS.astore X26.here hx rfl (hb hby at_50) rfl rfl (l' := #[.val (.int ops), .val (.int c0), .val (.int c1), .val (.int flags), .val (.ref nb1), .val (.ref nb4), .unset, .unset, .unset, .unset, .unset, .unset, .unset, .unset, .unset]) rfl k_) ?_
    show own_Go p e below _ T26 (mkF m 52 #[.val (.int ops), .val (.int c0), .val (.int c1), .val (.int flags), .val (.ref nb1), .val (.ref nb4), .unset, .unset, .unset, .unset, .unset, .unset, .unset, .unset, .unset] [])
    refine own_st (fun t_ k_ => XS.iloadN X26.here hx rfl (hb hby at_52) rfl k_) ?_
    show own_Go p e below _ T26 (mkF m 53 #[.val (.int ops), .val (.int c0), .val (.int c1), .val (.int flags), .val (.ref nb1), .val (.ref nb4), .unset, .unset, .unset, .unset, .unset, .unset, .unset, .unset, .unset] [(.int ops)])
    refine own_st (fun t_ k_ => XS.iconst X26.here hx rfl (hb hby at_53) k_) ?_
    show own_Go p e below _ T26 (mkF m 54 #[.val (.int ops), .val (.int c0), .val (.int c1), .val (.int flags), .val (.ref nb1), .val (.ref nb4), .unset, .unset, .unset, .unset, .unset, .unset, .unset, .unset, .unset] [(.int (3 : Int32)), (.int ops)])
    refine own_st (fun t_ k_ => XS.iand X26.here hx rfl (hb hby at_54) rfl k_) ?_
    show own_Go p e below _ T26 (mkF m 55 #[.val (.int ops), .val (.int c0), .val (.int c1), .val (.int flags), .val (.ref nb1), .val (.ref nb4), .unset, .unset, .unset, .unset, .unset, .unset, .unset, .unset, .unset] [(.int (ops &&& (3 : Int32)))])
    generalize h_nn : (ops &&& (3 : Int32)) = nn
    show own_Go p e below _ T26 (mkF m 55 #[.val (.int ops), .val (.int c0), .val (.int c1), .val (.int flags), .val (.ref nb1), .val (.ref nb4), .unset, .unset, .unset, .unset, .unset, .unset, .unset, .unset, .unset] [(.int nn)])
    refine own_st (fun t_ k_ => XS.istore X26.here hx rfl (hb hby at_55) rfl (l' := #[.val (.int ops), .val (.int c0), .val (.int c1), .val (.int flags), .val (.ref nb1), .val (.ref nb4), .val (.int nn), .unset, .unset, .unset, .unset, .unset, .unset, .unset, .unset]) rfl k_) ?_
    show own_Go p e below _ T26 (mkF m 57 #[.val (.int ops), .val (.int c0), .val (.int c1), .val (.int flags), .val (.ref nb1), .val (.ref nb4), .val (.int nn), .unset, .unset, .unset, .unset, .unset, .unset, .unset, .unset] [])
    refine own_st (fun t_ k_ => XS.iloadN X26.here hx rfl (hb hby at_57) rfl k_) ?_
    show own_Go p e below _ T26 (mkF m 58 #[.val (.int ops), .val (.int c0), .val (.int c1), .val (.int flags), .val (.ref nb1), .val (.ref nb4), .val (.int nn), .unset, .unset, .unset, .unset, .unset, .unset, .unset, .unset] [(.int ops)])
    refine own_st (fun t_ k_ => XS.iconst X26.here hx rfl (hb hby at_58) k_) ?_
    show own_Go p e below _ T26 (mkF m 59 #[.val (.int ops), .val (.int c0), .val (.int c1), .val (.int flags), .val (.ref nb1), .val (.ref nb4), .val (.int nn), .unset, .unset, .unset, .unset, .unset, .unset, .unset, .unset] [(.int (4 : Int32)), (.int ops)])
    refine own_st (fun t_ k_ => XS.iand X26.here hx rfl (hb hby at_59) rfl k_) ?_
    show own_Go p e below _ T26 (mkF m 60 #[.val (.int ops), .val (.int c0), .val (.int c1), .val (.int flags), .val (.ref nb1), .val (.ref nb4), .val (.int nn), .unset, .unset, .unset, .unset, .unset, .unset, .unset, .unset] [(.int (ops &&& (4 : Int32)))])
    refine own_join (α := Int32) (F := fun b0 => b0 = (0 : Int32) ∨ b0 = (1 : Int32)) (T' := T26) (g' := fun b0 => (mkF m 68 #[.val (.int ops), .val (.int c0), .val (.int c1), .val (.int flags), .val (.ref nb1), .val (.ref nb4), .val (.int nn), .unset, .unset, .unset, .unset, .unset, .unset, .unset, .unset] [(.int b0)])) (fun b0 h_b0 => ?_) (fun J_b0 => ?_)
    · show own_Go p e below _ T26 (mkF m 68 #[.val (.int ops), .val (.int c0), .val (.int c1), .val (.int flags), .val (.ref nb1), .val (.ref nb4), .val (.int nn), .unset, .unset, .unset, .unset, .unset, .unset, .unset, .unset] [(.int b0)])
      refine own_st (fun t_ k_ => XS.istore X26.here hx rfl (hb hby at_68) rfl (l' := #[.val (.int ops), .val (.int c0), .val (.int c1), .val (.int flags), .val (.ref nb1), .val (.ref nb4), .val (.int nn), .val (.int b0), .unset, .unset, .unset, .unset, .unset, .unset, .unset]) rfl k_) ?_
      show own_Go p e below _ T26 (mkF m 70 #[.val (.int ops), .val (.int c0), .val (.int c1), .val (.int flags), .val (.ref nb1), .val (.ref nb4), .val (.int nn), .val (.int b0), .unset, .unset, .unset, .unset, .unset, .unset, .unset] [])
      refine own_st (fun t_ k_ => XS.iloadN X26.here hx rfl (hb hby at_70) rfl k_) ?_
      show own_Go p e below _ T26 (mkF m 71 #[.val (.int ops), .val (.int c0), .val (.int c1), .val (.int flags), .val (.ref nb1), .val (.ref nb4), .val (.int nn), .val (.int b0), .unset, .unset, .unset, .unset, .unset, .unset, .unset] [(.int ops)])
      refine own_st (fun t_ k_ => XS.bipush X26.here hx rfl (hb hby at_71) k_) ?_
      show own_Go p e below _ T26 (mkF m 73 #[.val (.int ops), .val (.int c0), .val (.int c1), .val (.int flags), .val (.ref nb1), .val (.ref nb4), .val (.int nn), .val (.int b0), .unset, .unset, .unset, .unset, .unset, .unset, .unset] [(.int (8 : Int32)), (.int ops)])
      refine own_st (fun t_ k_ => XS.iand X26.here hx rfl (hb hby at_73) rfl k_) ?_
      show own_Go p e below _ T26 (mkF m 74 #[.val (.int ops), .val (.int c0), .val (.int c1), .val (.int flags), .val (.ref nb1), .val (.ref nb4), .val (.int nn), .val (.int b0), .unset, .unset, .unset, .unset, .unset, .unset, .unset] [(.int (ops &&& (8 : Int32)))])
      refine own_join (α := Int32) (F := fun b1 => b1 = (0 : Int32) ∨ b1 = (1 : Int32)) (T' := T26) (g' := fun b1 => (mkF m 82 #[.val (.int ops), .val (.int c0), .val (.int c1), .val (.int flags), .val (.ref nb1), .val (.ref nb4), .val (.int nn), .val (.int b0), .unset, .unset, .unset, .unset, .unset, .unset, .unset] [(.int b1)])) (fun b1 h_b1 => ?_) (fun J_b1 => ?_)
      · show own_Go p e below _ T26 (mkF m 82 #[.val (.int ops), .val (.int c0), .val (.int c1), .val (.int flags), .val (.ref nb1), .val (.ref nb4), .val (.int nn), .val (.int b0), .unset, .unset, .unset, .unset, .unset, .unset, .unset] [(.int b1)])
        refine own_st (fun t_ k_ => XS.istore X26.here hx rfl (hb hby at_82) rfl (l' := #[.val (.int ops), .val (.int c0), .val (.int c1), .val (.int flags), .val (.ref nb1), .val (.ref nb4), .val (.int nn), .val (.int b0), .val (.int b1), .unset, .unset, .unset, .unset, .unset, .unset]) rfl k_) ?_
        show own_Go p e below _ T26 (mkF m 84 #[.val (.int ops), .val (.int c0), .val (.int c1), .val (.int flags), .val (.ref nb1), .val (.ref nb4), .val (.int nn), .val (.int b0), .val (.int b1), .unset, .unset, .unset, .unset, .unset, .unset] [])
        refine own_st (fun t_ k_ => XS.iloadN X26.here hx rfl (hb hby at_84) rfl k_) ?_
        show own_Go p e below _ T26 (mkF m 85 #[.val (.int ops), .val (.int c0), .val (.int c1), .val (.int flags), .val (.ref nb1), .val (.ref nb4), .val (.int nn), .val (.int b0), .val (.int b1), .unset, .unset, .unset, .unset, .unset, .unset] [(.int ops)])
        refine own_st (fun t_ k_ => XS.bipush X26.here hx rfl (hb hby at_85) k_) ?_
        show own_Go p e below _ T26 (mkF m 87 #[.val (.int ops), .val (.int c0), .val (.int c1), .val (.int flags), .val (.ref nb1), .val (.ref nb4), .val (.int nn), .val (.int b0), .val (.int b1), .unset, .unset, .unset, .unset, .unset, .unset] [(.int (16 : Int32)), (.int ops)])
        refine own_st (fun t_ k_ => XS.iand X26.here hx rfl (hb hby at_87) rfl k_) ?_
        show own_Go p e below _ T26 (mkF m 88 #[.val (.int ops), .val (.int c0), .val (.int c1), .val (.int flags), .val (.ref nb1), .val (.ref nb4), .val (.int nn), .val (.int b0), .val (.int b1), .unset, .unset, .unset, .unset, .unset, .unset] [(.int (ops &&& (16 : Int32)))])
        refine own_join (α := Int32) (F := fun b2 => b2 = (0 : Int32) ∨ b2 = (1 : Int32)) (T' := T26) (g' := fun b2 => (mkF m 96 #[.val (.int ops), .val (.int c0), .val (.int c1), .val (.int flags), .val (.ref nb1), .val (.ref nb4), .val (.int nn), .val (.int b0), .val (.int b1), .unset, .unset, .unset, .unset, .unset, .unset] [(.int b2)])) (fun b2 h_b2 => ?_) (fun J_b2 => ?_)
        · show own_Go p e below _ T26 (mkF m 96 #[.val (.int ops), .val (.int c0), .val (.int c1), .val (.int flags), .val (.ref nb1), .val (.ref nb4), .val (.int nn), .val (.int b0), .val (.int b1), .unset, .unset, .unset, .unset, .unset, .unset] [(.int b2)])
          refine own_st (fun t_ k_ => XS.istore X26.here hx rfl (hb hby at_96) rfl (l' := #[.val (.int ops), .val (.int c0), .val (.int c1), .val (.int flags), .val (.ref nb1), .val (.ref nb4), .val (.int nn), .val (.int b0), .val (.int b1), .val (.int b2), .unset, .unset, .unset, .unset, .unset]) rfl k_) ?_
          show own_Go p e below _ T26 (mkF m 98 #[.val (.int ops), .val (.int c0), .val (.int c1), .val (.int flags), .val (.ref nb1), .val (.ref nb4), .val (.int nn), .val (.int b0), .val (.int b1), .val (.int b2), .unset, .unset, .unset, .unset, .unset] [])
          rcases (h_nn ▸ own_and3 ops : nn = (0 : Int32) ∨ nn = (1 : Int32) ∨ nn = (2 : Int32) ∨ nn = (3 : Int32)) with rfl | rfl | rfl | rfl
          · show own_Go p e below _ T26 (mkF m 98 #[.val (.int ops), .val (.int c0), .val (.int c1), .val (.int flags), .val (.ref nb1), .val (.ref nb4), .val (.int (0 : Int32)), .val (.int b0), .val (.int b1), .val (.int b2), .unset, .unset, .unset, .unset, .unset] [])
            refine own_st (fun t_ k_ => XS.iload X26.here hx rfl (hb hby at_98) rfl k_) ?_
            show own_Go p e below _ T26 (mkF m 100 #[.val (.int ops), .val (.int c0), .val (.int c1), .val (.int flags), .val (.ref nb1), .val (.ref nb4), .val (.int (0 : Int32)), .val (.int b0), .val (.int b1), .val (.int b2), .unset, .unset, .unset, .unset, .unset] [(.int (0 : Int32))])
            refine own_st (fun t_ k_ => XS.iconst X26.here hx rfl (hb hby at_100) k_) ?_
            show own_Go p e below _ T26 (mkF m 101 #[.val (.int ops), .val (.int c0), .val (.int c1), .val (.int flags), .val (.ref nb1), .val (.ref nb4), .val (.int (0 : Int32)), .val (.int b0), .val (.int b1), .val (.int b2), .unset, .unset, .unset, .unset, .unset] [(.int (1 : Int32)), (.int (0 : Int32))])
            refine own_st (fun t_ k_ => XS.icmpYes X26.here hx rfl (pc0 := 101) (pc' := 111) rfl (hb hby at_101) rfl (by decide) (by decide) (by decide) k_) ?_
            show own_Go p e below _ T26 (mkF m 111 #[.val (.int ops), .val (.int c0), .val (.int c1), .val (.int flags), .val (.ref nb1), .val (.ref nb4), .val (.int (0 : Int32)), .val (.int b0), .val (.int b1), .val (.int b2), .unset, .unset, .unset, .unset, .unset] [])
            refine own_st (fun t_ k_ => XS.iload X26.here hx rfl (hb hby at_111) rfl k_) ?_
            show own_Go p e below _ T26 (mkF m 113 #[.val (.int ops), .val (.int c0), .val (.int c1), .val (.int flags), .val (.ref nb1), .val (.ref nb4), .val (.int (0 : Int32)), .val (.int b0), .val (.int b1), .val (.int b2), .unset, .unset, .unset, .unset, .unset] [(.int (0 : Int32))])
            refine own_st (fun t_ k_ => XS.iconst X26.here hx rfl (hb hby at_113) k_) ?_
            show own_Go p e below _ T26 (mkF m 114 #[.val (.int ops), .val (.int c0), .val (.int c1), .val (.int flags), .val (.ref nb1), .val (.ref nb4), .val (.int (0 : Int32)), .val (.int b0), .val (.int b1), .val (.int b2), .unset, .unset, .unset, .unset, .unset] [(.int (2 : Int32)), (.int (0 : Int32))])
            refine own_st (fun t_ k_ => XS.icmpYes X26.here hx rfl (pc0 := 114) (pc' := 124) rfl (hb hby at_114) rfl (by decide) (by decide) (by decide) k_) ?_
            show own_Go p e below _ T26 (mkF m 124 #[.val (.int ops), .val (.int c0), .val (.int c1), .val (.int flags), .val (.ref nb1), .val (.ref nb4), .val (.int (0 : Int32)), .val (.int b0), .val (.int b1), .val (.int b2), .unset, .unset, .unset, .unset, .unset] [])
            refine own_st (fun t_ k_ => XS.iload X26.here hx rfl (hb hby at_124) rfl k_) ?_
            show own_Go p e below _ T26 (mkF m 126 #[.val (.int ops), .val (.int c0), .val (.int c1), .val (.int flags), .val (.ref nb1), .val (.ref nb4), .val (.int (0 : Int32)), .val (.int b0), .val (.int b1), .val (.int b2), .unset, .unset, .unset, .unset, .unset] [(.int (0 : Int32))])
            refine own_st (fun t_ k_ => XS.iconst X26.here hx rfl (hb hby at_126) k_) ?_
            show own_Go p e below _ T26 (mkF m 127 #[.val (.int ops), .val (.int c0), .val (.int c1), .val (.int flags), .val (.ref nb1), .val (.ref nb4), .val (.int (0 : Int32)), .val (.int b0), .val (.int b1), .val (.int b2), .unset, .unset, .unset, .unset, .unset] [(.int (3 : Int32)), (.int (0 : Int32))])
            refine own_st (fun t_ k_ => XS.icmpYes X26.here hx rfl (pc0 := 127) (pc' := 137) rfl (hb hby at_127) rfl (by decide) (by decide) (by decide) k_) ?_
            show own_Go p e below _ T26 (mkF m 137 #[.val (.int ops), .val (.int c0), .val (.int c1), .val (.int flags), .val (.ref nb1), .val (.ref nb4), .val (.int (0 : Int32)), .val (.int b0), .val (.int b1), .val (.int b2), .unset, .unset, .unset, .unset, .unset] [])
            refine own_st (fun t_ k_ => XS.iload X26.here hx rfl (hb hby at_137) rfl k_) ?_
            show own_Go p e below _ T26 (mkF m 139 #[.val (.int ops), .val (.int c0), .val (.int c1), .val (.int flags), .val (.ref nb1), .val (.ref nb4), .val (.int (0 : Int32)), .val (.int b0), .val (.int b1), .val (.int b2), .unset, .unset, .unset, .unset, .unset] [(.int (0 : Int32))])
            refine own_st (fun t_ k_ => XS.iconst X26.here hx rfl (hb hby at_139) k_) ?_
            show own_Go p e below _ T26 (mkF m 140 #[.val (.int ops), .val (.int c0), .val (.int c1), .val (.int flags), .val (.ref nb1), .val (.ref nb4), .val (.int (0 : Int32)), .val (.int b0), .val (.int b1), .val (.int b2), .unset, .unset, .unset, .unset, .unset] [(.int (1 : Int32)), (.int (0 : Int32))])
            refine own_st (fun t_ k_ => XS.icmpYes X26.here hx rfl (pc0 := 140) (pc' := 148) rfl (hb hby at_140) rfl (by decide) (by decide) (by decide) k_) ?_
            show own_Go p e below _ T26 (mkF m 148 #[.val (.int ops), .val (.int c0), .val (.int c1), .val (.int flags), .val (.ref nb1), .val (.ref nb4), .val (.int (0 : Int32)), .val (.int b0), .val (.int b1), .val (.int b2), .unset, .unset, .unset, .unset, .unset] [])
            refine own_st (fun t_ k_ => XS.iload X26.here hx rfl (hb hby at_148) rfl k_) ?_
            show own_Go p e below _ T26 (mkF m 150 #[.val (.int ops), .val (.int c0), .val (.int c1), .val (.int flags), .val (.ref nb1), .val (.ref nb4), .val (.int (0 : Int32)), .val (.int b0), .val (.int b1), .val (.int b2), .unset, .unset, .unset, .unset, .unset] [(.int (0 : Int32))])
            refine own_st (fun t_ k_ => XS.iconst X26.here hx rfl (hb hby at_150) k_) ?_
            show own_Go p e below _ T26 (mkF m 151 #[.val (.int ops), .val (.int c0), .val (.int c1), .val (.int flags), .val (.ref nb1), .val (.ref nb4), .val (.int (0 : Int32)), .val (.int b0), .val (.int b1), .val (.int b2), .unset, .unset, .unset, .unset, .unset] [(.int (2 : Int32)), (.int (0 : Int32))])
            refine own_st (fun t_ k_ => XS.icmpYes X26.here hx rfl (pc0 := 151) (pc' := 159) rfl (hb hby at_151) rfl (by decide) (by decide) (by decide) k_) ?_
            show own_Go p e below _ T26 (mkF m 159 #[.val (.int ops), .val (.int c0), .val (.int c1), .val (.int flags), .val (.ref nb1), .val (.ref nb4), .val (.int (0 : Int32)), .val (.int b0), .val (.int b1), .val (.int b2), .unset, .unset, .unset, .unset, .unset] [])
            refine own_st (fun t_ k_ => XS.iload X26.here hx rfl (hb hby at_159) rfl k_) ?_
            show own_Go p e below _ T26 (mkF m 161 #[.val (.int ops), .val (.int c0), .val (.int c1), .val (.int flags), .val (.ref nb1), .val (.ref nb4), .val (.int (0 : Int32)), .val (.int b0), .val (.int b1), .val (.int b2), .unset, .unset, .unset, .unset, .unset] [(.int (0 : Int32))])
            refine own_st (fun t_ k_ => XS.iconst X26.here hx rfl (hb hby at_161) k_) ?_
            show own_Go p e below _ T26 (mkF m 162 #[.val (.int ops), .val (.int c0), .val (.int c1), .val (.int flags), .val (.ref nb1), .val (.ref nb4), .val (.int (0 : Int32)), .val (.int b0), .val (.int b1), .val (.int b2), .unset, .unset, .unset, .unset, .unset] [(.int (3 : Int32)), (.int (0 : Int32))])
            refine own_st (fun t_ k_ => XS.icmpYes X26.here hx rfl (pc0 := 162) (pc' := 174) rfl (hb hby at_162) rfl (by decide) (by decide) (by decide) k_) ?_
            show own_Go p e below _ T26 (mkF m 174 #[.val (.int ops), .val (.int c0), .val (.int c1), .val (.int flags), .val (.ref nb1), .val (.ref nb4), .val (.int (0 : Int32)), .val (.int b0), .val (.int b1), .val (.int b2), .unset, .unset, .unset, .unset, .unset] [])
            refine own_st (fun t_ k_ => XS.iconst X26.here hx rfl (hb hby at_174) k_) ?_
            show own_Go p e below _ T26 (mkF m 175 #[.val (.int ops), .val (.int c0), .val (.int c1), .val (.int flags), .val (.ref nb1), .val (.ref nb4), .val (.int (0 : Int32)), .val (.int b0), .val (.int b1), .val (.int b2), .unset, .unset, .unset, .unset, .unset] [(.int (0 : Int32))])
            refine own_st (fun t_ k_ => XS.istore X26.here hx rfl (hb hby at_175) rfl (l' := #[.val (.int ops), .val (.int c0), .val (.int c1), .val (.int flags), .val (.ref nb1), .val (.ref nb4), .val (.int (0 : Int32)), .val (.int b0), .val (.int b1), .val (.int b2), .val (.int (0 : Int32)), .unset, .unset, .unset, .unset]) rfl k_) ?_
            show own_Go p e below _ T26 (mkF m 177 #[.val (.int ops), .val (.int c0), .val (.int c1), .val (.int flags), .val (.ref nb1), .val (.ref nb4), .val (.int (0 : Int32)), .val (.int b0), .val (.int b1), .val (.int b2), .val (.int (0 : Int32)), .unset, .unset, .unset, .unset] [])
            refine own_st (fun t_ k_ => XS.iload X26.here hx rfl (hb hby at_177) rfl k_) ?_
            show own_Go p e below _ T26 (mkF m 179 #[.val (.int ops), .val (.int c0), .val (.int c1), .val (.int flags), .val (.ref nb1), .val (.ref nb4), .val (.int (0 : Int32)), .val (.int b0), .val (.int b1), .val (.int b2), .val (.int (0 : Int32)), .unset, .unset, .unset, .unset] [(.int (0 : Int32))])
            refine own_st (fun t_ k_ => XS.iconst X26.here hx rfl (hb hby at_179) k_) ?_
            show own_Go p e below _ T26 (mkF m 180 #[.val (.int ops), .val (.int c0), .val (.int c1), .val (.int flags), .val (.ref nb1), .val (.ref nb4), .val (.int (0 : Int32)), .val (.int b0), .val (.int b1), .val (.int b2), .val (.int (0 : Int32)), .unset, .unset, .unset, .unset] [(.int (1 : Int32)), (.int (0 : Int32))])
            refine own_st (fun t_ k_ => XS.icmpYes X26.here hx rfl (pc0 := 180) (pc' := 188) rfl (hb hby at_180) rfl (by decide) (by decide) (by decide) k_) ?_
            show own_Go p e below _ T26 (mkF m 188 #[.val (.int ops), .val (.int c0), .val (.int c1), .val (.int flags), .val (.ref nb1), .val (.ref nb4), .val (.int (0 : Int32)), .val (.int b0), .val (.int b1), .val (.int b2), .val (.int (0 : Int32)), .unset, .unset, .unset, .unset] [])
            refine own_st (fun t_ k_ => XS.iload X26.here hx rfl (hb hby at_188) rfl k_) ?_
            show own_Go p e below _ T26 (mkF m 190 #[.val (.int ops), .val (.int c0), .val (.int c1), .val (.int flags), .val (.ref nb1), .val (.ref nb4), .val (.int (0 : Int32)), .val (.int b0), .val (.int b1), .val (.int b2), .val (.int (0 : Int32)), .unset, .unset, .unset, .unset] [(.int (0 : Int32))])
            refine own_st (fun t_ k_ => XS.iconst X26.here hx rfl (hb hby at_190) k_) ?_
            show own_Go p e below _ T26 (mkF m 191 #[.val (.int ops), .val (.int c0), .val (.int c1), .val (.int flags), .val (.ref nb1), .val (.ref nb4), .val (.int (0 : Int32)), .val (.int b0), .val (.int b1), .val (.int b2), .val (.int (0 : Int32)), .unset, .unset, .unset, .unset] [(.int (2 : Int32)), (.int (0 : Int32))])
            refine own_st (fun t_ k_ => XS.icmpYes X26.here hx rfl (pc0 := 191) (pc' := 199) rfl (hb hby at_191) rfl (by decide) (by decide) (by decide) k_) ?_
            show own_Go p e below _ T26 (mkF m 199 #[.val (.int ops), .val (.int c0), .val (.int c1), .val (.int flags), .val (.ref nb1), .val (.ref nb4), .val (.int (0 : Int32)), .val (.int b0), .val (.int b1), .val (.int b2), .val (.int (0 : Int32)), .unset, .unset, .unset, .unset] [])
            refine own_st (fun t_ k_ => XS.iload X26.here hx rfl (hb hby at_199) rfl k_) ?_
            show own_Go p e below _ T26 (mkF m 201 #[.val (.int ops), .val (.int c0), .val (.int c1), .val (.int flags), .val (.ref nb1), .val (.ref nb4), .val (.int (0 : Int32)), .val (.int b0), .val (.int b1), .val (.int b2), .val (.int (0 : Int32)), .unset, .unset, .unset, .unset] [(.int (0 : Int32))])
            refine own_st (fun t_ k_ => XS.iconst X26.here hx rfl (hb hby at_201) k_) ?_
            show own_Go p e below _ T26 (mkF m 202 #[.val (.int ops), .val (.int c0), .val (.int c1), .val (.int flags), .val (.ref nb1), .val (.ref nb4), .val (.int (0 : Int32)), .val (.int b0), .val (.int b1), .val (.int b2), .val (.int (0 : Int32)), .unset, .unset, .unset, .unset] [(.int (3 : Int32)), (.int (0 : Int32))])
            refine own_st (fun t_ k_ => XS.icmpYes X26.here hx rfl (pc0 := 202) (pc' := 214) rfl (hb hby at_202) rfl (by decide) (by decide) (by decide) k_) ?_
            show own_Go p e below _ T26 (mkF m 214 #[.val (.int ops), .val (.int c0), .val (.int c1), .val (.int flags), .val (.ref nb1), .val (.ref nb4), .val (.int (0 : Int32)), .val (.int b0), .val (.int b1), .val (.int b2), .val (.int (0 : Int32)), .unset, .unset, .unset, .unset] [])
            refine own_st (fun t_ k_ => XS.iconst X26.here hx rfl (hb hby at_214) k_) ?_
            show own_Go p e below _ T26 (mkF m 215 #[.val (.int ops), .val (.int c0), .val (.int c1), .val (.int flags), .val (.ref nb1), .val (.ref nb4), .val (.int (0 : Int32)), .val (.int b0), .val (.int b1), .val (.int b2), .val (.int (0 : Int32)), .unset, .unset, .unset, .unset] [(.int (0 : Int32))])
            refine own_st (fun t_ k_ => XS.istore X26.here hx rfl (hb hby at_215) rfl (l' := #[.val (.int ops), .val (.int c0), .val (.int c1), .val (.int flags), .val (.ref nb1), .val (.ref nb4), .val (.int (0 : Int32)), .val (.int b0), .val (.int b1), .val (.int b2), .val (.int (0 : Int32)), .val (.int (0 : Int32)), .unset, .unset, .unset]) rfl k_) ?_
            show own_Go p e below _ T26 (mkF m 217 #[.val (.int ops), .val (.int c0), .val (.int c1), .val (.int flags), .val (.ref nb1), .val (.ref nb4), .val (.int (0 : Int32)), .val (.int b0), .val (.int b1), .val (.int b2), .val (.int (0 : Int32)), .val (.int (0 : Int32)), .unset, .unset, .unset] [])
            refine own_st (fun t_ k_ => XS.aload X26.here hx rfl (hb hby at_217) rfl rfl k_) ?_
            show own_Go p e below _ T26 (mkF m 219 #[.val (.int ops), .val (.int c0), .val (.int c1), .val (.int flags), .val (.ref nb1), .val (.ref nb4), .val (.int (0 : Int32)), .val (.int b0), .val (.int b1), .val (.int b2), .val (.int (0 : Int32)), .val (.int (0 : Int32)), .unset, .unset, .unset] [(.ref nb4)])
            refine own_st (fun t_ k_ => XS.iconst X26.here hx rfl (hb hby at_219) k_) ?_
            show own_Go p e below _ T26 (mkF m 220 #[.val (.int ops), .val (.int c0), .val (.int c1), .val (.int flags), .val (.ref nb1), .val (.ref nb4), .val (.int (0 : Int32)), .val (.int b0), .val (.int b1), .val (.int b2), .val (.int (0 : Int32)), .val (.int (0 : Int32)), .unset, .unset, .unset] [(.int (1 : Int32)), (.ref nb4)])
            obtain ⟨cq31, kq31, q31a, q31b, q31c⟩ := isOf hZ rfl Eq26
            refine own_callV X26 hx (y := (⟨"com/example/kapu/kapu/service/Coverage$Part", "isCovered", "(Z)Z"⟩ : MethodName)) (z := (⟨"com/example/kapu/kapu/service/Coverage$Part", "isCovered", "(Z)Z"⟩ : MethodName)) hown (mvT hZ (hw _ (List.mem_of_getElem? (i := 41) rfl))) (mvT hZ (hw _ (List.mem_of_getElem? (i := 42) rfl))) (notFace_of_selects (args := #[]) (mvT hZ (hw _ (List.mem_of_getElem? (i := 44) rfl)))) (mvT hZ (hw _ (List.mem_of_getElem? (i := 44) rfl))) (mvT hZ (hw _ (List.mem_of_getElem? (i := 43) rfl))) (by decide) (backOf (W := 0) (rmV1 l Z a0 hw [] nb4 (0 : Int32) T26.heap n0 (Nat.le_trans Z0 K26.1) Fq26_2 rfl) hZ (hw _ (List.mem_of_getElem? (i := 45) rfl)) (hw _ (List.mem_of_getElem? (i := 3) rfl)) (by decide) (by decide)) q31a q31c (g := (mkF m 220 #[.val (.int ops), .val (.int c0), .val (.int c1), .val (.int flags), .val (.ref nb1), .val (.ref nb4), .val (.int (0 : Int32)), .val (.int b0), .val (.int b1), .val (.int b2), .val (.int (0 : Int32)), .val (.int (0 : Int32)), .unset, .unset, .unset] [(.int (1 : Int32)), (.ref nb4)])) rfl (by rw [hml]; rfl) (argsL := [(.int (1 : Int32))]) (rest := []) (lenOf pd_2 rfl) rfl (by show 2 * 0 + _ ≤ _; exact Nat.le_of_eq rfl) (hb hby at_220) rfl rfl (by decide) (by decide) ?_
            rintro v30 T30 L30 X30 ⟨rfl, Nq30, hh30⟩
            have N30 := Fr.app N26 Nq30
            show own_Go p e below _ T30 (mkF m 223 #[.val (.int ops), .val (.int c0), .val (.int c1), .val (.int flags), .val (.ref nb1), .val (.ref nb4), .val (.int (0 : Int32)), .val (.int b0), .val (.int b1), .val (.int b2), .val (.int (0 : Int32)), .val (.int (0 : Int32)), .unset, .unset, .unset] [(.int (0 : Int32))])
            refine own_st (fun t_ k_ => XS.istore X30.here hx rfl (hb hby at_223) rfl (l' := #[.val (.int ops), .val (.int c0), .val (.int c1), .val (.int flags), .val (.ref nb1), .val (.ref nb4), .val (.int (0 : Int32)), .val (.int b0), .val (.int b1), .val (.int b2), .val (.int (0 : Int32)), .val (.int (0 : Int32)), .val (.int (0 : Int32)), .unset, .unset]) rfl k_) ?_
            show own_Go p e below _ T30 (mkF m 225 #[.val (.int ops), .val (.int c0), .val (.int c1), .val (.int flags), .val (.ref nb1), .val (.ref nb4), .val (.int (0 : Int32)), .val (.int b0), .val (.int b1), .val (.int b2), .val (.int (0 : Int32)), .val (.int (0 : Int32)), .val (.int (0 : Int32)), .unset, .unset] [])
            refine own_st (fun t_ k_ => XS.aload X30.here hx rfl (hb hby at_225) rfl rfl k_) ?_
            show own_Go p e below _ T30 (mkF m 227 #[.val (.int ops), .val (.int c0), .val (.int c1), .val (.int flags), .val (.ref nb1), .val (.ref nb4), .val (.int (0 : Int32)), .val (.int b0), .val (.int b1), .val (.int b2), .val (.int (0 : Int32)), .val (.int (0 : Int32)), .val (.int (0 : Int32)), .unset, .unset] [(.ref nb4)])
            refine own_st (fun t_ k_ => XS.iconst X30.here hx rfl (hb hby at_227) k_) ?_
            show own_Go p e below _ T30 (mkF m 228 #[.val (.int ops), .val (.int c0), .val (.int c1), .val (.int flags), .val (.ref nb1), .val (.ref nb4), .val (.int (0 : Int32)), .val (.int b0), .val (.int b1), .val (.int b2), .val (.int (0 : Int32)), .val (.int (0 : Int32)), .val (.int (0 : Int32)), .unset, .unset] [(.int (0 : Int32)), (.ref nb4)])
            obtain ⟨cq33, kq33, q33a, q33b, q33c⟩ := isOf hZ hh30 Eq26
            refine own_callV X30 hx (y := (⟨"com/example/kapu/kapu/service/Coverage$Part", "isCovered", "(Z)Z"⟩ : MethodName)) (z := (⟨"com/example/kapu/kapu/service/Coverage$Part", "isCovered", "(Z)Z"⟩ : MethodName)) hown (mvT hZ (hw _ (List.mem_of_getElem? (i := 41) rfl))) (mvT hZ (hw _ (List.mem_of_getElem? (i := 42) rfl))) (notFace_of_selects (args := #[]) (mvT hZ (hw _ (List.mem_of_getElem? (i := 44) rfl)))) (mvT hZ (hw _ (List.mem_of_getElem? (i := 44) rfl))) (mvT hZ (hw _ (List.mem_of_getElem? (i := 43) rfl))) (by decide) (backOf (W := 0) (rmV0 l Z a0 hw [] nb4 (0 : Int32) T26.heap n0 (Nat.le_trans Z0 K26.1) Fq26_3 rfl) hZ (hw _ (List.mem_of_getElem? (i := 45) rfl)) (hw _ (List.mem_of_getElem? (i := 3) rfl)) (by decide) (by decide)) q33a q33c (g := (mkF m 228 #[.val (.int ops), .val (.int c0), .val (.int c1), .val (.int flags), .val (.ref nb1), .val (.ref nb4), .val (.int (0 : Int32)), .val (.int b0), .val (.int b1), .val (.int b2), .val (.int (0 : Int32)), .val (.int (0 : Int32)), .val (.int (0 : Int32)), .unset, .unset] [(.int (0 : Int32)), (.ref nb4)])) rfl (by rw [hml]; rfl) (argsL := [(.int (0 : Int32))]) (rest := []) (lenOf pd_2 rfl) rfl (by show 2 * 0 + _ ≤ _; exact Nat.le_of_eq rfl) (hb hby at_228) rfl hh30 (by decide) (by decide) ?_
            rintro v32 T32 L32 X32 ⟨rfl, Nq32, hh32⟩
            have N32 := Fr.app N30 Nq32
            show own_Go p e below _ T32 (mkF m 231 #[.val (.int ops), .val (.int c0), .val (.int c1), .val (.int flags), .val (.ref nb1), .val (.ref nb4), .val (.int (0 : Int32)), .val (.int b0), .val (.int b1), .val (.int b2), .val (.int (0 : Int32)), .val (.int (0 : Int32)), .val (.int (0 : Int32)), .unset, .unset] [(.int (0 : Int32))])
            refine own_st (fun t_ k_ => XS.istore X32.here hx rfl (hb hby at_231) rfl (l' := #[.val (.int ops), .val (.int c0), .val (.int c1), .val (.int flags), .val (.ref nb1), .val (.ref nb4), .val (.int (0 : Int32)), .val (.int b0), .val (.int b1), .val (.int b2), .val (.int (0 : Int32)), .val (.int (0 : Int32)), .val (.int (0 : Int32)), .val (.int (0 : Int32)), .unset]) rfl k_) ?_
            show own_Go p e below _ T32 (mkF m 233 #[.val (.int ops), .val (.int c0), .val (.int c1), .val (.int flags), .val (.ref nb1), .val (.ref nb4), .val (.int (0 : Int32)), .val (.int b0), .val (.int b1), .val (.int b2), .val (.int (0 : Int32)), .val (.int (0 : Int32)), .val (.int (0 : Int32)), .val (.int (0 : Int32)), .unset] [])
            refine own_st (fun t_ k_ => XS.aload X32.here hx rfl (hb hby at_233) rfl rfl k_) ?_
            show own_Go p e below _ T32 (mkF m 235 #[.val (.int ops), .val (.int c0), .val (.int c1), .val (.int flags), .val (.ref nb1), .val (.ref nb4), .val (.int (0 : Int32)), .val (.int b0), .val (.int b1), .val (.int b2), .val (.int (0 : Int32)), .val (.int (0 : Int32)), .val (.int (0 : Int32)), .val (.int (0 : Int32)), .unset] [(.ref nb4)])
            refine own_st (fun t_ k_ => XS.iconst X32.here hx rfl (hb hby at_235) k_) ?_
            show own_Go p e below _ T32 (mkF m 236 #[.val (.int ops), .val (.int c0), .val (.int c1), .val (.int flags), .val (.ref nb1), .val (.ref nb4), .val (.int (0 : Int32)), .val (.int b0), .val (.int b1), .val (.int b2), .val (.int (0 : Int32)), .val (.int (0 : Int32)), .val (.int (0 : Int32)), .val (.int (0 : Int32)), .unset] [(.int (1 : Int32)), (.ref nb4)])
            obtain ⟨cq35, kq35, q35a, q35b, q35c⟩ := isOf hZ hh32 Eq26
            refine own_callV X32 hx (y := (⟨"com/example/kapu/kapu/service/Coverage$Part", "isCovered", "(Z)Z"⟩ : MethodName)) (z := (⟨"com/example/kapu/kapu/service/Coverage$Part", "isCovered", "(Z)Z"⟩ : MethodName)) hown (mvT hZ (hw _ (List.mem_of_getElem? (i := 41) rfl))) (mvT hZ (hw _ (List.mem_of_getElem? (i := 42) rfl))) (notFace_of_selects (args := #[]) (mvT hZ (hw _ (List.mem_of_getElem? (i := 44) rfl)))) (mvT hZ (hw _ (List.mem_of_getElem? (i := 44) rfl))) (mvT hZ (hw _ (List.mem_of_getElem? (i := 43) rfl))) (by decide) (backOf (W := 0) (rmV1 l Z a0 hw [] nb4 (0 : Int32) T26.heap n0 (Nat.le_trans Z0 K26.1) Fq26_2 rfl) hZ (hw _ (List.mem_of_getElem? (i := 45) rfl)) (hw _ (List.mem_of_getElem? (i := 3) rfl)) (by decide) (by decide)) q35a q35c (g := (mkF m 236 #[.val (.int ops), .val (.int c0), .val (.int c1), .val (.int flags), .val (.ref nb1), .val (.ref nb4), .val (.int (0 : Int32)), .val (.int b0), .val (.int b1), .val (.int b2), .val (.int (0 : Int32)), .val (.int (0 : Int32)), .val (.int (0 : Int32)), .val (.int (0 : Int32)), .unset] [(.int (1 : Int32)), (.ref nb4)])) rfl (by rw [hml]; rfl) (argsL := [(.int (1 : Int32))]) (rest := []) (lenOf pd_2 rfl) rfl (by show 2 * 0 + _ ≤ _; exact Nat.le_of_eq rfl) (hb hby at_236) rfl hh32 (by decide) (by decide) ?_
            rintro v34 T34 L34 X34 ⟨rfl, Nq34, hh34⟩
            have N34 := Fr.app N32 Nq34
            show own_Go p e below _ T34 (mkF m 239 #[.val (.int ops), .val (.int c0), .val (.int c1), .val (.int flags), .val (.ref nb1), .val (.ref nb4), .val (.int (0 : Int32)), .val (.int b0), .val (.int b1), .val (.int b2), .val (.int (0 : Int32)), .val (.int (0 : Int32)), .val (.int (0 : Int32)), .val (.int (0 : Int32)), .unset] [(.int (0 : Int32))])
            refine own_st (fun t_ k_ => XS.istore X34.here hx rfl (hb hby at_239) rfl (l' := #[.val (.int ops), .val (.int c0), .val (.int c1), .val (.int flags), .val (.ref nb1), .val (.ref nb4), .val (.int (0 : Int32)), .val (.int b0), .val (.int b1), .val (.int b2), .val (.int (0 : Int32)), .val (.int (0 : Int32)), .val (.int (0 : Int32)), .val (.int (0 : Int32)), .val (.int (0 : Int32))]) rfl k_) ?_
            show own_Go p e below _ T34 (mkF m 241 #[.val (.int ops), .val (.int c0), .val (.int c1), .val (.int flags), .val (.ref nb1), .val (.ref nb4), .val (.int (0 : Int32)), .val (.int b0), .val (.int b1), .val (.int b2), .val (.int (0 : Int32)), .val (.int (0 : Int32)), .val (.int (0 : Int32)), .val (.int (0 : Int32)), .val (.int (0 : Int32))] [])
            refine own_st (fun t_ k_ => XS.iload X34.here hx rfl (hb hby at_241) rfl k_) ?_
            show own_Go p e below _ T34 (mkF m 243 #[.val (.int ops), .val (.int c0), .val (.int c1), .val (.int flags), .val (.ref nb1), .val (.ref nb4), .val (.int (0 : Int32)), .val (.int b0), .val (.int b1), .val (.int b2), .val (.int (0 : Int32)), .val (.int (0 : Int32)), .val (.int (0 : Int32)), .val (.int (0 : Int32)), .val (.int (0 : Int32))] [(.int (0 : Int32))])
            refine own_st (fun t_ k_ => XS.iload X34.here hx rfl (hb hby at_243) rfl k_) ?_
            show own_Go p e below _ T34 (mkF m 245 #[.val (.int ops), .val (.int c0), .val (.int c1), .val (.int flags), .val (.ref nb1), .val (.ref nb4), .val (.int (0 : Int32)), .val (.int b0), .val (.int b1), .val (.int b2), .val (.int (0 : Int32)), .val (.int (0 : Int32)), .val (.int (0 : Int32)), .val (.int (0 : Int32)), .val (.int (0 : Int32))] [(.int (0 : Int32)), (.int (0 : Int32))])
            refine own_st (fun t_ k_ => XS.icmpNo X34.here hx rfl (hb hby at_245) rfl (by decide) k_) ?_
            show own_Go p e below _ T34 (mkF m 248 #[.val (.int ops), .val (.int c0), .val (.int c1), .val (.int flags), .val (.ref nb1), .val (.ref nb4), .val (.int (0 : Int32)), .val (.int b0), .val (.int b1), .val (.int b2), .val (.int (0 : Int32)), .val (.int (0 : Int32)), .val (.int (0 : Int32)), .val (.int (0 : Int32)), .val (.int (0 : Int32))] [])
            refine own_st (fun t_ k_ => XS.iload X34.here hx rfl (hb hby at_248) rfl k_) ?_
            show own_Go p e below _ T34 (mkF m 250 #[.val (.int ops), .val (.int c0), .val (.int c1), .val (.int flags), .val (.ref nb1), .val (.ref nb4), .val (.int (0 : Int32)), .val (.int b0), .val (.int b1), .val (.int b2), .val (.int (0 : Int32)), .val (.int (0 : Int32)), .val (.int (0 : Int32)), .val (.int (0 : Int32)), .val (.int (0 : Int32))] [(.int (0 : Int32))])
            refine own_st (fun t_ k_ => XS.iload X34.here hx rfl (hb hby at_250) rfl k_) ?_
            show own_Go p e below _ T34 (mkF m 252 #[.val (.int ops), .val (.int c0), .val (.int c1), .val (.int flags), .val (.ref nb1), .val (.ref nb4), .val (.int (0 : Int32)), .val (.int b0), .val (.int b1), .val (.int b2), .val (.int (0 : Int32)), .val (.int (0 : Int32)), .val (.int (0 : Int32)), .val (.int (0 : Int32)), .val (.int (0 : Int32))] [(.int (0 : Int32)), (.int (0 : Int32))])
            refine own_st (fun t_ k_ => XS.icmpNo X34.here hx rfl (hb hby at_252) rfl (by decide) k_) ?_
            show own_Go p e below _ T34 (mkF m 255 #[.val (.int ops), .val (.int c0), .val (.int c1), .val (.int flags), .val (.ref nb1), .val (.ref nb4), .val (.int (0 : Int32)), .val (.int b0), .val (.int b1), .val (.int b2), .val (.int (0 : Int32)), .val (.int (0 : Int32)), .val (.int (0 : Int32)), .val (.int (0 : Int32)), .val (.int (0 : Int32))] [])
            refine own_st (fun t_ k_ => XS.iload X34.here hx rfl (hb hby at_255) rfl k_) ?_
            show own_Go p e below _ T34 (mkF m 257 #[.val (.int ops), .val (.int c0), .val (.int c1), .val (.int flags), .val (.ref nb1), .val (.ref nb4), .val (.int (0 : Int32)), .val (.int b0), .val (.int b1), .val (.int b2), .val (.int (0 : Int32)), .val (.int (0 : Int32)), .val (.int (0 : Int32)), .val (.int (0 : Int32)), .val (.int (0 : Int32))] [(.int (0 : Int32))])
            refine own_st (fun t_ k_ => XS.iload X34.here hx rfl (hb hby at_257) rfl k_) ?_
            show own_Go p e below _ T34 (mkF m 259 #[.val (.int ops), .val (.int c0), .val (.int c1), .val (.int flags), .val (.ref nb1), .val (.ref nb4), .val (.int (0 : Int32)), .val (.int b0), .val (.int b1), .val (.int b2), .val (.int (0 : Int32)), .val (.int (0 : Int32)), .val (.int (0 : Int32)), .val (.int (0 : Int32)), .val (.int (0 : Int32))] [(.int (0 : Int32)), (.int (0 : Int32))])
            refine own_st (fun t_ k_ => XS.icmpNo X34.here hx rfl (hb hby at_259) rfl (by decide) k_) ?_
            show own_Go p e below _ T34 (mkF m 262 #[.val (.int ops), .val (.int c0), .val (.int c1), .val (.int flags), .val (.ref nb1), .val (.ref nb4), .val (.int (0 : Int32)), .val (.int b0), .val (.int b1), .val (.int b2), .val (.int (0 : Int32)), .val (.int (0 : Int32)), .val (.int (0 : Int32)), .val (.int (0 : Int32)), .val (.int (0 : Int32))] [])
            refine own_st (fun t_ k_ => XS.iconst X34.here hx rfl (hb hby at_262) k_) ?_
            show own_Go p e below _ T34 (mkF m 263 #[.val (.int ops), .val (.int c0), .val (.int c1), .val (.int flags), .val (.ref nb1), .val (.ref nb4), .val (.int (0 : Int32)), .val (.int b0), .val (.int b1), .val (.int b2), .val (.int (0 : Int32)), .val (.int (0 : Int32)), .val (.int (0 : Int32)), .val (.int (0 : Int32)), .val (.int (0 : Int32))] [(.int (1 : Int32))])
            refine own_st (fun t_ k_ => XS.goto X34.here hx rfl (pc0 := 263) (pc' := 267) rfl (hb hby at_263) (by decide) (by decide) k_) ?_
            show own_Go p e below _ T34 (mkF m 267 #[.val (.int ops), .val (.int c0), .val (.int c1), .val (.int flags), .val (.ref nb1), .val (.ref nb4), .val (.int (0 : Int32)), .val (.int b0), .val (.int b1), .val (.int b2), .val (.int (0 : Int32)), .val (.int (0 : Int32)), .val (.int (0 : Int32)), .val (.int (0 : Int32)), .val (.int (0 : Int32))] [(.int (1 : Int32))])
            refine own_retN X34 hx hlk (t := .boolean) Bd.returns (by simp) (hb hby at_267) ?_ (by decide) (by decide)
            show Q0 n0 _ T34.heap _
            rw [hh34]
            exact ⟨rfl, N34⟩
          · show own_Go p e below _ T26 (mkF m 98 #[.val (.int ops), .val (.int c0), .val (.int c1), .val (.int flags), .val (.ref nb1), .val (.ref nb4), .val (.int (1 : Int32)), .val (.int b0), .val (.int b1), .val (.int b2), .unset, .unset, .unset, .unset, .unset] [])
            refine own_st (fun t_ k_ => XS.iload X26.here hx rfl (hb hby at_98) rfl k_) ?_
            show own_Go p e below _ T26 (mkF m 100 #[.val (.int ops), .val (.int c0), .val (.int c1), .val (.int flags), .val (.ref nb1), .val (.ref nb4), .val (.int (1 : Int32)), .val (.int b0), .val (.int b1), .val (.int b2), .unset, .unset, .unset, .unset, .unset] [(.int (1 : Int32))])
            refine own_st (fun t_ k_ => XS.iconst X26.here hx rfl (hb hby at_100) k_) ?_
            show own_Go p e below _ T26 (mkF m 101 #[.val (.int ops), .val (.int c0), .val (.int c1), .val (.int flags), .val (.ref nb1), .val (.ref nb4), .val (.int (1 : Int32)), .val (.int b0), .val (.int b1), .val (.int b2), .unset, .unset, .unset, .unset, .unset] [(.int (1 : Int32)), (.int (1 : Int32))])
            refine own_st (fun t_ k_ => XS.icmpNo X26.here hx rfl (hb hby at_101) rfl (by decide) k_) ?_
            show own_Go p e below _ T26 (mkF m 104 #[.val (.int ops), .val (.int c0), .val (.int c1), .val (.int flags), .val (.ref nb1), .val (.ref nb4), .val (.int (1 : Int32)), .val (.int b0), .val (.int b1), .val (.int b2), .unset, .unset, .unset, .unset, .unset] [])
            refine own_st (fun t_ k_ => XS.aload X26.here hx rfl (hb hby at_104) rfl rfl k_) ?_
            show own_Go p e below _ T26 (mkF m 106 #[.val (.int ops), .val (.int c0), .val (.int c1), .val (.int flags), .val (.ref nb1), .val (.ref nb4), .val (.int (1 : Int32)), .val (.int b0), .val (.int b1), .val (.int b2), .unset, .unset, .unset, .unset, .unset] [(.ref nb4)])
            refine own_st (fun t_ k_ => XS.iload X26.here hx rfl (hb hby at_106) rfl k_) ?_
            show own_Go p e below _ T26 (mkF m 108 #[.val (.int ops), .val (.int c0), .val (.int c1), .val (.int flags), .val (.ref nb1), .val (.ref nb4), .val (.int (1 : Int32)), .val (.int b0), .val (.int b1), .val (.int b2), .unset, .unset, .unset, .unset, .unset] [(.int b0), (.ref nb4)])
            rcases (h_b0 : b0 = (0 : Int32) ∨ b0 = (1 : Int32)) with rfl | rfl
            · show own_Go p e below _ T26 (mkF m 108 #[.val (.int ops), .val (.int c0), .val (.int c1), .val (.int flags), .val (.ref nb1), .val (.ref nb4), .val (.int (1 : Int32)), .val (.int (0 : Int32)), .val (.int b1), .val (.int b2), .unset, .unset, .unset, .unset, .unset] [(.int (0 : Int32)), (.ref nb4)])
              obtain ⟨cq37, kq37, q37a, q37b, q37c⟩ := isOf hZ rfl Eq26
              refine own_callV X26 hx (y := (⟨"com/example/kapu/kapu/service/Coverage$Part", "cover", "(Z)V"⟩ : MethodName)) (z := (⟨"com/example/kapu/kapu/service/Coverage$Part", "cover", "(Z)V"⟩ : MethodName)) hown (mvT hZ (hw _ (List.mem_of_getElem? (i := 50) rfl))) (mvT hZ (hw _ (List.mem_of_getElem? (i := 51) rfl))) (notFace_of_selects (args := #[]) (mvT hZ (hw _ (List.mem_of_getElem? (i := 53) rfl)))) (mvT hZ (hw _ (List.mem_of_getElem? (i := 53) rfl))) (mvT hZ (hw _ (List.mem_of_getElem? (i := 52) rfl))) (by decide) (backOf (W := 0) (rmC0 l Z a0 hw [] nb4 nb5 bz (0 : Int32) (0 : Int32) T26.heap n0 (Nat.le_trans Z0 K26.1) g_nb4 Eq26 Fq26_0 Fq26_1 Fq26_2 Fq26_3) hZ (hw _ (List.mem_of_getElem? (i := 54) rfl)) (hw _ (List.mem_of_getElem? (i := 3) rfl)) (by decide) (by decide)) q37a q37c (g := (mkF m 108 #[.val (.int ops), .val (.int c0), .val (.int c1), .val (.int flags), .val (.ref nb1), .val (.ref nb4), .val (.int (1 : Int32)), .val (.int (0 : Int32)), .val (.int b1), .val (.int b2), .unset, .unset, .unset, .unset, .unset] [(.int (0 : Int32)), (.ref nb4)])) rfl (by rw [hml]; rfl) (argsL := [(.int (0 : Int32))]) (rest := []) (lenOf pd_3 rfl) rfl (by show 2 * 0 + _ ≤ _; exact Nat.le_of_eq rfl) (hb hby at_108) rfl rfl (by decide) (by decide) ?_
              rintro v36 T36 L36 X36 ⟨rfl, Nq36, Kq36, Eq36, Fq36_0, Fq36_1, Fq36_2, Fq36_3⟩
              have N36 := Fr.app N26 Nq36
              have K36 : Keep h0 T36.heap [] := K26.trans Kq36 (allS (Or.inr sz_nb4) all0)
              show own_Go p e below _ T36 (mkF m 111 #[.val (.int ops), .val (.int c0), .val (.int c1), .val (.int flags), .val (.ref nb1), .val (.ref nb4), .val (.int (1 : Int32)), .val (.int (0 : Int32)), .val (.int b1), .val (.int b2), .unset, .unset, .unset, .unset, .unset] [])
              refine own_st (fun t_ k_ => XS.iload X36.here hx rfl (hb hby at_111) rfl k_) ?_
              show own_Go p e below _ T36 (mkF m 113 #[.val (.int ops), .val (.int c0), .val (.int c1), .val (.int flags), .val (.ref nb1), .val (.ref nb4), .val (.int (1 : Int32)), .val (.int (0 : Int32)), .val (.int b1), .val (.int b2), .unset, .unset, .unset, .unset, .unset] [(.int (1 : Int32))])
              refine own_st (fun t_ k_ => XS.iconst X36.here hx rfl (hb hby at_113) k_) ?_
              show own_Go p e below _ T36 (mkF m 114 #[.val (.int ops), .val (.int c0), .val (.int c1), .val (.int flags), .val (.ref nb1), .val (.ref nb4), .val (.int (1 : Int32)), .val (.int (0 : Int32)), .val (.int b1), .val (.int b2), .unset, .unset, .unset, .unset, .unset] [(.int (2 : Int32)), (.int (1 : Int32))])
              refine own_st (fun t_ k_ => XS.icmpYes X36.here hx rfl (pc0 := 114) (pc' := 124) rfl (hb hby at_114) rfl (by decide) (by decide) (by decide) k_) ?_
              show own_Go p e below _ T36 (mkF m 124 #[.val (.int ops), .val (.int c0), .val (.int c1), .val (.int flags), .val (.ref nb1), .val (.ref nb4), .val (.int (1 : Int32)), .val (.int (0 : Int32)), .val (.int b1), .val (.int b2), .unset, .unset, .unset, .unset, .unset] [])
              refine own_st (fun t_ k_ => XS.iload X36.here hx rfl (hb hby at_124) rfl k_) ?_
              show own_Go p e below _ T36 (mkF m 126 #[.val (.int ops), .val (.int c0), .val (.int c1), .val (.int flags), .val (.ref nb1), .val (.ref nb4), .val (.int (1 : Int32)), .val (.int (0 : Int32)), .val (.int b1), .val (.int b2), .unset, .unset, .unset, .unset, .unset] [(.int (1 : Int32))])
              refine own_st (fun t_ k_ => XS.iconst X36.here hx rfl (hb hby at_126) k_) ?_
              show own_Go p e below _ T36 (mkF m 127 #[.val (.int ops), .val (.int c0), .val (.int c1), .val (.int flags), .val (.ref nb1), .val (.ref nb4), .val (.int (1 : Int32)), .val (.int (0 : Int32)), .val (.int b1), .val (.int b2), .unset, .unset, .unset, .unset, .unset] [(.int (3 : Int32)), (.int (1 : Int32))])
              refine own_st (fun t_ k_ => XS.icmpYes X36.here hx rfl (pc0 := 127) (pc' := 137) rfl (hb hby at_127) rfl (by decide) (by decide) (by decide) k_) ?_
              show own_Go p e below _ T36 (mkF m 137 #[.val (.int ops), .val (.int c0), .val (.int c1), .val (.int flags), .val (.ref nb1), .val (.ref nb4), .val (.int (1 : Int32)), .val (.int (0 : Int32)), .val (.int b1), .val (.int b2), .unset, .unset, .unset, .unset, .unset] [])
              refine own_st (fun t_ k_ => XS.iload X36.here hx rfl (hb hby at_137) rfl k_) ?_
              show own_Go p e below _ T36 (mkF m 139 #[.val (.int ops), .val (.int c0), .val (.int c1), .val (.int flags), .val (.ref nb1), .val (.ref nb4), .val (.int (1 : Int32)), .val (.int (0 : Int32)), .val (.int b1), .val (.int b2), .unset, .unset, .unset, .unset, .unset] [(.int (1 : Int32))])
              refine own_st (fun t_ k_ => XS.iconst X36.here hx rfl (hb hby at_139) k_) ?_
              show own_Go p e below _ T36 (mkF m 140 #[.val (.int ops), .val (.int c0), .val (.int c1), .val (.int flags), .val (.ref nb1), .val (.ref nb4), .val (.int (1 : Int32)), .val (.int (0 : Int32)), .val (.int b1), .val (.int b2), .unset, .unset, .unset, .unset, .unset] [(.int (1 : Int32)), (.int (1 : Int32))])
              refine own_st (fun t_ k_ => XS.icmpNo X36.here hx rfl (hb hby at_140) rfl (by decide) k_) ?_
              show own_Go p e below _ T36 (mkF m 143 #[.val (.int ops), .val (.int c0), .val (.int c1), .val (.int flags), .val (.ref nb1), .val (.ref nb4), .val (.int (1 : Int32)), .val (.int (0 : Int32)), .val (.int b1), .val (.int b2), .unset, .unset, .unset, .unset, .unset] [])
              refine own_st (fun t_ k_ => XS.iload X36.here hx rfl (hb hby at_143) rfl k_) ?_
              show own_Go p e below _ T36 (mkF m 145 #[.val (.int ops), .val (.int c0), .val (.int c1), .val (.int flags), .val (.ref nb1), .val (.ref nb4), .val (.int (1 : Int32)), .val (.int (0 : Int32)), .val (.int b1), .val (.int b2), .unset, .unset, .unset, .unset, .unset] [(.int (0 : Int32))])
              refine own_st (fun t_ k_ => XS.ifNo X36.here hx rfl (hb hby at_145) rfl (by decide) k_) ?_
              show own_Go p e below _ T36 (mkF m 148 #[.val (.int ops), .val (.int c0), .val (.int c1), .val (.int flags), .val (.ref nb1), .val (.ref nb4), .val (.int (1 : Int32)), .val (.int (0 : Int32)), .val (.int b1), .val (.int b2), .unset, .unset, .unset, .unset, .unset] [])
              refine own_st (fun t_ k_ => XS.iload X36.here hx rfl (hb hby at_148) rfl k_) ?_
              show own_Go p e below _ T36 (mkF m 150 #[.val (.int ops), .val (.int c0), .val (.int c1), .val (.int flags), .val (.ref nb1), .val (.ref nb4), .val (.int (1 : Int32)), .val (.int (0 : Int32)), .val (.int b1), .val (.int b2), .unset, .unset, .unset, .unset, .unset] [(.int (1 : Int32))])
              refine own_st (fun t_ k_ => XS.iconst X36.here hx rfl (hb hby at_150) k_) ?_
              show own_Go p e below _ T36 (mkF m 151 #[.val (.int ops), .val (.int c0), .val (.int c1), .val (.int flags), .val (.ref nb1), .val (.ref nb4), .val (.int (1 : Int32)), .val (.int (0 : Int32)), .val (.int b1), .val (.int b2), .unset, .unset, .unset, .unset, .unset] [(.int (2 : Int32)), (.int (1 : Int32))])
              refine own_st (fun t_ k_ => XS.icmpYes X36.here hx rfl (pc0 := 151) (pc' := 159) rfl (hb hby at_151) rfl (by decide) (by decide) (by decide) k_) ?_
              show own_Go p e below _ T36 (mkF m 159 #[.val (.int ops), .val (.int c0), .val (.int c1), .val (.int flags), .val (.ref nb1), .val (.ref nb4), .val (.int (1 : Int32)), .val (.int (0 : Int32)), .val (.int b1), .val (.int b2), .unset, .unset, .unset, .unset, .unset] [])
              refine own_st (fun t_ k_ => XS.iload X36.here hx rfl (hb hby at_159) rfl k_) ?_
              show own_Go p e below _ T36 (mkF m 161 #[.val (.int ops), .val (.int c0), .val (.int c1), .val (.int flags), .val (.ref nb1), .val (.ref nb4), .val (.int (1 : Int32)), .val (.int (0 : Int32)), .val (.int b1), .val (.int b2), .unset, .unset, .unset, .unset, .unset] [(.int (1 : Int32))])
              refine own_st (fun t_ k_ => XS.iconst X36.here hx rfl (hb hby at_161) k_) ?_
              show own_Go p e below _ T36 (mkF m 162 #[.val (.int ops), .val (.int c0), .val (.int c1), .val (.int flags), .val (.ref nb1), .val (.ref nb4), .val (.int (1 : Int32)), .val (.int (0 : Int32)), .val (.int b1), .val (.int b2), .unset, .unset, .unset, .unset, .unset] [(.int (3 : Int32)), (.int (1 : Int32))])
              refine own_st (fun t_ k_ => XS.icmpYes X36.here hx rfl (pc0 := 162) (pc' := 174) rfl (hb hby at_162) rfl (by decide) (by decide) (by decide) k_) ?_
              show own_Go p e below _ T36 (mkF m 174 #[.val (.int ops), .val (.int c0), .val (.int c1), .val (.int flags), .val (.ref nb1), .val (.ref nb4), .val (.int (1 : Int32)), .val (.int (0 : Int32)), .val (.int b1), .val (.int b2), .unset, .unset, .unset, .unset, .unset] [])
              refine own_st (fun t_ k_ => XS.iconst X36.here hx rfl (hb hby at_174) k_) ?_
              show own_Go p e below _ T36 (mkF m 175 #[.val (.int ops), .val (.int c0), .val (.int c1), .val (.int flags), .val (.ref nb1), .val (.ref nb4), .val (.int (1 : Int32)), .val (.int (0 : Int32)), .val (.int b1), .val (.int b2), .unset, .unset, .unset, .unset, .unset] [(.int (0 : Int32))])
              refine own_st (fun t_ k_ => XS.istore X36.here hx rfl (hb hby at_175) rfl (l' := #[.val (.int ops), .val (.int c0), .val (.int c1), .val (.int flags), .val (.ref nb1), .val (.ref nb4), .val (.int (1 : Int32)), .val (.int (0 : Int32)), .val (.int b1), .val (.int b2), .val (.int (0 : Int32)), .unset, .unset, .unset, .unset]) rfl k_) ?_
              show own_Go p e below _ T36 (mkF m 177 #[.val (.int ops), .val (.int c0), .val (.int c1), .val (.int flags), .val (.ref nb1), .val (.ref nb4), .val (.int (1 : Int32)), .val (.int (0 : Int32)), .val (.int b1), .val (.int b2), .val (.int (0 : Int32)), .unset, .unset, .unset, .unset] [])
              refine own_st (fun t_ k_ => XS.iload X36.here hx rfl (hb hby at_177) rfl k_) ?_
              show own_Go p e below _ T36 (mkF m 179 #[.val (.int ops), .val (.int c0), .val (.int c1), .val (.int flags), .val (.ref nb1), .val (.ref nb4), .val (.int (1 : Int32)), .val (.int (0 : Int32)), .val (.int b1), .val (.int b2), .val (.int (0 : Int32)), .unset, .unset, .unset, .unset] [(.int (1 : Int32))])
              refine own_st (fun t_ k_ => XS.iconst X36.here hx rfl (hb hby at_179) k_) ?_
              show own_Go p e below _ T36 (mkF m 180 #[.val (.int ops), .val (.int c0), .val (.int c1), .val (.int flags), .val (.ref nb1), .val (.ref nb4), .val (.int (1 : Int32)), .val (.int (0 : Int32)), .val (.int b1), .val (.int b2), .val (.int (0 : Int32)), .unset, .unset, .unset, .unset] [(.int (1 : Int32)), (.int (1 : Int32))])
              refine own_st (fun t_ k_ => XS.icmpNo X36.here hx rfl (hb hby at_180) rfl (by decide) k_) ?_
              show own_Go p e below _ T36 (mkF m 183 #[.val (.int ops), .val (.int c0), .val (.int c1), .val (.int flags), .val (.ref nb1), .val (.ref nb4), .val (.int (1 : Int32)), .val (.int (0 : Int32)), .val (.int b1), .val (.int b2), .val (.int (0 : Int32)), .unset, .unset, .unset, .unset] [])
              refine own_st (fun t_ k_ => XS.iload X36.here hx rfl (hb hby at_183) rfl k_) ?_
              show own_Go p e below _ T36 (mkF m 185 #[.val (.int ops), .val (.int c0), .val (.int c1), .val (.int flags), .val (.ref nb1), .val (.ref nb4), .val (.int (1 : Int32)), .val (.int (0 : Int32)), .val (.int b1), .val (.int b2), .val (.int (0 : Int32)), .unset, .unset, .unset, .unset] [(.int (0 : Int32))])
              refine own_st (fun t_ k_ => XS.ifYes X36.here hx rfl (pc0 := 185) (pc' := 210) rfl (hb hby at_185) rfl (by decide) (by decide) (by decide) k_) ?_
              show own_Go p e below _ T36 (mkF m 210 #[.val (.int ops), .val (.int c0), .val (.int c1), .val (.int flags), .val (.ref nb1), .val (.ref nb4), .val (.int (1 : Int32)), .val (.int (0 : Int32)), .val (.int b1), .val (.int b2), .val (.int (0 : Int32)), .unset, .unset, .unset, .unset] [])
              refine own_st (fun t_ k_ => XS.iconst X36.here hx rfl (hb hby at_210) k_) ?_
              show own_Go p e below _ T36 (mkF m 211 #[.val (.int ops), .val (.int c0), .val (.int c1), .val (.int flags), .val (.ref nb1), .val (.ref nb4), .val (.int (1 : Int32)), .val (.int (0 : Int32)), .val (.int b1), .val (.int b2), .val (.int (0 : Int32)), .unset, .unset, .unset, .unset] [(.int (1 : Int32))])
              refine own_st (fun t_ k_ => XS.goto X36.here hx rfl (pc0 := 211) (pc' := 215) rfl (hb hby at_211) (by decide) (by decide) k_) ?_
              show own_Go p e below _ T36 (mkF m 215 #[.val (.int ops), .val (.int c0), .val (.int c1), .val (.int flags), .val (.ref nb1), .val (.ref nb4), .val (.int (1 : Int32)), .val (.int (0 : Int32)), .val (.int b1), .val (.int b2), .val (.int (0 : Int32)), .unset, .unset, .unset, .unset] [(.int (1 : Int32))])
              refine own_st (fun t_ k_ => XS.istore X36.here hx rfl (hb hby at_215) rfl (l' := #[.val (.int ops), .val (.int c0), .val (.int c1), .val (.int flags), .val (.ref nb1), .val (.ref nb4), .val (.int (1 : Int32)), .val (.int (0 : Int32)), .val (.int b1), .val (.int b2), .val (.int (0 : Int32)), .val (.int (1 : Int32)), .unset, .unset, .unset]) rfl k_) ?_
              show own_Go p e below _ T36 (mkF m 217 #[.val (.int ops), .val (.int c0), .val (.int c1), .val (.int flags), .val (.ref nb1), .val (.ref nb4), .val (.int (1 : Int32)), .val (.int (0 : Int32)), .val (.int b1), .val (.int b2), .val (.int (0 : Int32)), .val (.int (1 : Int32)), .unset, .unset, .unset] [])
              refine own_st (fun t_ k_ => XS.aload X36.here hx rfl (hb hby at_217) rfl rfl k_) ?_
              show own_Go p e below _ T36 (mkF m 219 #[.val (.int ops), .val (.int c0), .val (.int c1), .val (.int flags), .val (.ref nb1), .val (.ref nb4), .val (.int (1 : Int32)), .val (.int (0 : Int32)), .val (.int b1), .val (.int b2), .val (.int (0 : Int32)), .val (.int (1 : Int32)), .unset, .unset, .unset] [(.ref nb4)])
              refine own_st (fun t_ k_ => XS.iconst X36.here hx rfl (hb hby at_219) k_) ?_
              show own_Go p e below _ T36 (mkF m 220 #[.val (.int ops), .val (.int c0), .val (.int c1), .val (.int flags), .val (.ref nb1), .val (.ref nb4), .val (.int (1 : Int32)), .val (.int (0 : Int32)), .val (.int b1), .val (.int b2), .val (.int (0 : Int32)), .val (.int (1 : Int32)), .unset, .unset, .unset] [(.int (1 : Int32)), (.ref nb4)])
              obtain ⟨cq39, kq39, q39a, q39b, q39c⟩ := isOf hZ rfl Eq36
              refine own_callV X36 hx (y := (⟨"com/example/kapu/kapu/service/Coverage$Part", "isCovered", "(Z)Z"⟩ : MethodName)) (z := (⟨"com/example/kapu/kapu/service/Coverage$Part", "isCovered", "(Z)Z"⟩ : MethodName)) hown (mvT hZ (hw _ (List.mem_of_getElem? (i := 41) rfl))) (mvT hZ (hw _ (List.mem_of_getElem? (i := 42) rfl))) (notFace_of_selects (args := #[]) (mvT hZ (hw _ (List.mem_of_getElem? (i := 44) rfl)))) (mvT hZ (hw _ (List.mem_of_getElem? (i := 44) rfl))) (mvT hZ (hw _ (List.mem_of_getElem? (i := 43) rfl))) (by decide) (backOf (W := 0) (rmV1 l Z a0 hw [] nb4 (0 : Int32) T36.heap n0 (Nat.le_trans Z0 K36.1) Fq36_2 rfl) hZ (hw _ (List.mem_of_getElem? (i := 45) rfl)) (hw _ (List.mem_of_getElem? (i := 3) rfl)) (by decide) (by decide)) q39a q39c (g := (mkF m 220 #[.val (.int ops), .val (.int c0), .val (.int c1), .val (.int flags), .val (.ref nb1), .val (.ref nb4), .val (.int (1 : Int32)), .val (.int (0 : Int32)), .val (.int b1), .val (.int b2), .val (.int (0 : Int32)), .val (.int (1 : Int32)), .unset, .unset, .unset] [(.int (1 : Int32)), (.ref nb4)])) rfl (by rw [hml]; rfl) (argsL := [(.int (1 : Int32))]) (rest := []) (lenOf pd_2 rfl) rfl (by show 2 * 0 + _ ≤ _; exact Nat.le_of_eq rfl) (hb hby at_220) rfl rfl (by decide) (by decide) ?_
              rintro v38 T38 L38 X38 ⟨rfl, Nq38, hh38⟩
              have N38 := Fr.app N36 Nq38
              show own_Go p e below _ T38 (mkF m 223 #[.val (.int ops), .val (.int c0), .val (.int c1), .val (.int flags), .val (.ref nb1), .val (.ref nb4), .val (.int (1 : Int32)), .val (.int (0 : Int32)), .val (.int b1), .val (.int b2), .val (.int (0 : Int32)), .val (.int (1 : Int32)), .unset, .unset, .unset] [(.int (0 : Int32))])
              refine own_st (fun t_ k_ => XS.istore X38.here hx rfl (hb hby at_223) rfl (l' := #[.val (.int ops), .val (.int c0), .val (.int c1), .val (.int flags), .val (.ref nb1), .val (.ref nb4), .val (.int (1 : Int32)), .val (.int (0 : Int32)), .val (.int b1), .val (.int b2), .val (.int (0 : Int32)), .val (.int (1 : Int32)), .val (.int (0 : Int32)), .unset, .unset]) rfl k_) ?_
              show own_Go p e below _ T38 (mkF m 225 #[.val (.int ops), .val (.int c0), .val (.int c1), .val (.int flags), .val (.ref nb1), .val (.ref nb4), .val (.int (1 : Int32)), .val (.int (0 : Int32)), .val (.int b1), .val (.int b2), .val (.int (0 : Int32)), .val (.int (1 : Int32)), .val (.int (0 : Int32)), .unset, .unset] [])
              refine own_st (fun t_ k_ => XS.aload X38.here hx rfl (hb hby at_225) rfl rfl k_) ?_
              show own_Go p e below _ T38 (mkF m 227 #[.val (.int ops), .val (.int c0), .val (.int c1), .val (.int flags), .val (.ref nb1), .val (.ref nb4), .val (.int (1 : Int32)), .val (.int (0 : Int32)), .val (.int b1), .val (.int b2), .val (.int (0 : Int32)), .val (.int (1 : Int32)), .val (.int (0 : Int32)), .unset, .unset] [(.ref nb4)])
              refine own_st (fun t_ k_ => XS.iconst X38.here hx rfl (hb hby at_227) k_) ?_
              show own_Go p e below _ T38 (mkF m 228 #[.val (.int ops), .val (.int c0), .val (.int c1), .val (.int flags), .val (.ref nb1), .val (.ref nb4), .val (.int (1 : Int32)), .val (.int (0 : Int32)), .val (.int b1), .val (.int b2), .val (.int (0 : Int32)), .val (.int (1 : Int32)), .val (.int (0 : Int32)), .unset, .unset] [(.int (0 : Int32)), (.ref nb4)])
              obtain ⟨cq41, kq41, q41a, q41b, q41c⟩ := isOf hZ hh38 Eq36
              refine own_callV X38 hx (y := (⟨"com/example/kapu/kapu/service/Coverage$Part", "isCovered", "(Z)Z"⟩ : MethodName)) (z := (⟨"com/example/kapu/kapu/service/Coverage$Part", "isCovered", "(Z)Z"⟩ : MethodName)) hown (mvT hZ (hw _ (List.mem_of_getElem? (i := 41) rfl))) (mvT hZ (hw _ (List.mem_of_getElem? (i := 42) rfl))) (notFace_of_selects (args := #[]) (mvT hZ (hw _ (List.mem_of_getElem? (i := 44) rfl)))) (mvT hZ (hw _ (List.mem_of_getElem? (i := 44) rfl))) (mvT hZ (hw _ (List.mem_of_getElem? (i := 43) rfl))) (by decide) (backOf (W := 0) (rmV0 l Z a0 hw [] nb4 (1 : Int32) T36.heap n0 (Nat.le_trans Z0 K36.1) Fq36_3 rfl) hZ (hw _ (List.mem_of_getElem? (i := 45) rfl)) (hw _ (List.mem_of_getElem? (i := 3) rfl)) (by decide) (by decide)) q41a q41c (g := (mkF m 228 #[.val (.int ops), .val (.int c0), .val (.int c1), .val (.int flags), .val (.ref nb1), .val (.ref nb4), .val (.int (1 : Int32)), .val (.int (0 : Int32)), .val (.int b1), .val (.int b2), .val (.int (0 : Int32)), .val (.int (1 : Int32)), .val (.int (0 : Int32)), .unset, .unset] [(.int (0 : Int32)), (.ref nb4)])) rfl (by rw [hml]; rfl) (argsL := [(.int (0 : Int32))]) (rest := []) (lenOf pd_2 rfl) rfl (by show 2 * 0 + _ ≤ _; exact Nat.le_of_eq rfl) (hb hby at_228) rfl hh38 (by decide) (by decide) ?_
              rintro v40 T40 L40 X40 ⟨rfl, Nq40, hh40⟩
              have N40 := Fr.app N38 Nq40
              show own_Go p e below _ T40 (mkF m 231 #[.val (.int ops), .val (.int c0), .val (.int c1), .val (.int flags), .val (.ref nb1), .val (.ref nb4), .val (.int (1 : Int32)), .val (.int (0 : Int32)), .val (.int b1), .val (.int b2), .val (.int (0 : Int32)), .val (.int (1 : Int32)), .val (.int (0 : Int32)), .unset, .unset] [(.int (1 : Int32))])
              refine own_st (fun t_ k_ => XS.istore X40.here hx rfl (hb hby at_231) rfl (l' := #[.val (.int ops), .val (.int c0), .val (.int c1), .val (.int flags), .val (.ref nb1), .val (.ref nb4), .val (.int (1 : Int32)), .val (.int (0 : Int32)), .val (.int b1), .val (.int b2), .val (.int (0 : Int32)), .val (.int (1 : Int32)), .val (.int (0 : Int32)), .val (.int (1 : Int32)), .unset]) rfl k_) ?_
              show own_Go p e below _ T40 (mkF m 233 #[.val (.int ops), .val (.int c0), .val (.int c1), .val (.int flags), .val (.ref nb1), .val (.ref nb4), .val (.int (1 : Int32)), .val (.int (0 : Int32)), .val (.int b1), .val (.int b2), .val (.int (0 : Int32)), .val (.int (1 : Int32)), .val (.int (0 : Int32)), .val (.int (1 : Int32)), .unset] [])
              refine own_st (fun t_ k_ => XS.aload X40.here hx rfl (hb hby at_233) rfl rfl k_) ?_
              show own_Go p e below _ T40 (mkF m 235 #[.val (.int ops), .val (.int c0), .val (.int c1), .val (.int flags), .val (.ref nb1), .val (.ref nb4), .val (.int (1 : Int32)), .val (.int (0 : Int32)), .val (.int b1), .val (.int b2), .val (.int (0 : Int32)), .val (.int (1 : Int32)), .val (.int (0 : Int32)), .val (.int (1 : Int32)), .unset] [(.ref nb4)])
              refine own_st (fun t_ k_ => XS.iconst X40.here hx rfl (hb hby at_235) k_) ?_
              show own_Go p e below _ T40 (mkF m 236 #[.val (.int ops), .val (.int c0), .val (.int c1), .val (.int flags), .val (.ref nb1), .val (.ref nb4), .val (.int (1 : Int32)), .val (.int (0 : Int32)), .val (.int b1), .val (.int b2), .val (.int (0 : Int32)), .val (.int (1 : Int32)), .val (.int (0 : Int32)), .val (.int (1 : Int32)), .unset] [(.int (1 : Int32)), (.ref nb4)])
              obtain ⟨cq43, kq43, q43a, q43b, q43c⟩ := isOf hZ hh40 Eq36
              refine own_callV X40 hx (y := (⟨"com/example/kapu/kapu/service/Coverage$Part", "isCovered", "(Z)Z"⟩ : MethodName)) (z := (⟨"com/example/kapu/kapu/service/Coverage$Part", "isCovered", "(Z)Z"⟩ : MethodName)) hown (mvT hZ (hw _ (List.mem_of_getElem? (i := 41) rfl))) (mvT hZ (hw _ (List.mem_of_getElem? (i := 42) rfl))) (notFace_of_selects (args := #[]) (mvT hZ (hw _ (List.mem_of_getElem? (i := 44) rfl)))) (mvT hZ (hw _ (List.mem_of_getElem? (i := 44) rfl))) (mvT hZ (hw _ (List.mem_of_getElem? (i := 43) rfl))) (by decide) (backOf (W := 0) (rmV1 l Z a0 hw [] nb4 (0 : Int32) T36.heap n0 (Nat.le_trans Z0 K36.1) Fq36_2 rfl) hZ (hw _ (List.mem_of_getElem? (i := 45) rfl)) (hw _ (List.mem_of_getElem? (i := 3) rfl)) (by decide) (by decide)) q43a q43c (g := (mkF m 236 #[.val (.int ops), .val (.int c0), .val (.int c1), .val (.int flags), .val (.ref nb1), .val (.ref nb4), .val (.int (1 : Int32)), .val (.int (0 : Int32)), .val (.int b1), .val (.int b2), .val (.int (0 : Int32)), .val (.int (1 : Int32)), .val (.int (0 : Int32)), .val (.int (1 : Int32)), .unset] [(.int (1 : Int32)), (.ref nb4)])) rfl (by rw [hml]; rfl) (argsL := [(.int (1 : Int32))]) (rest := []) (lenOf pd_2 rfl) rfl (by show 2 * 0 + _ ≤ _; exact Nat.le_of_eq rfl) (hb hby at_236) rfl hh40 (by decide) (by decide) ?_
              rintro v42 T42 L42 X42 ⟨rfl, Nq42, hh42⟩
              have N42 := Fr.app N40 Nq42
              show own_Go p e below _ T42 (mkF m 239 #[.val (.int ops), .val (.int c0), .val (.int c1), .val (.int flags), .val (.ref nb1), .val (.ref nb4), .val (.int (1 : Int32)), .val (.int (0 : Int32)), .val (.int b1), .val (.int b2), .val (.int (0 : Int32)), .val (.int (1 : Int32)), .val (.int (0 : Int32)), .val (.int (1 : Int32)), .unset] [(.int (0 : Int32))])
              refine own_st (fun t_ k_ => XS.istore X42.here hx rfl (hb hby at_239) rfl (l' := #[.val (.int ops), .val (.int c0), .val (.int c1), .val (.int flags), .val (.ref nb1), .val (.ref nb4), .val (.int (1 : Int32)), .val (.int (0 : Int32)), .val (.int b1), .val (.int b2), .val (.int (0 : Int32)), .val (.int (1 : Int32)), .val (.int (0 : Int32)), .val (.int (1 : Int32)), .val (.int (0 : Int32))]) rfl k_) ?_
              show own_Go p e below _ T42 (mkF m 241 #[.val (.int ops), .val (.int c0), .val (.int c1), .val (.int flags), .val (.ref nb1), .val (.ref nb4), .val (.int (1 : Int32)), .val (.int (0 : Int32)), .val (.int b1), .val (.int b2), .val (.int (0 : Int32)), .val (.int (1 : Int32)), .val (.int (0 : Int32)), .val (.int (1 : Int32)), .val (.int (0 : Int32))] [])
              refine own_st (fun t_ k_ => XS.iload X42.here hx rfl (hb hby at_241) rfl k_) ?_
              show own_Go p e below _ T42 (mkF m 243 #[.val (.int ops), .val (.int c0), .val (.int c1), .val (.int flags), .val (.ref nb1), .val (.ref nb4), .val (.int (1 : Int32)), .val (.int (0 : Int32)), .val (.int b1), .val (.int b2), .val (.int (0 : Int32)), .val (.int (1 : Int32)), .val (.int (0 : Int32)), .val (.int (1 : Int32)), .val (.int (0 : Int32))] [(.int (0 : Int32))])
              refine own_st (fun t_ k_ => XS.iload X42.here hx rfl (hb hby at_243) rfl k_) ?_
              show own_Go p e below _ T42 (mkF m 245 #[.val (.int ops), .val (.int c0), .val (.int c1), .val (.int flags), .val (.ref nb1), .val (.ref nb4), .val (.int (1 : Int32)), .val (.int (0 : Int32)), .val (.int b1), .val (.int b2), .val (.int (0 : Int32)), .val (.int (1 : Int32)), .val (.int (0 : Int32)), .val (.int (1 : Int32)), .val (.int (0 : Int32))] [(.int (0 : Int32)), (.int (0 : Int32))])
              refine own_st (fun t_ k_ => XS.icmpNo X42.here hx rfl (hb hby at_245) rfl (by decide) k_) ?_
              show own_Go p e below _ T42 (mkF m 248 #[.val (.int ops), .val (.int c0), .val (.int c1), .val (.int flags), .val (.ref nb1), .val (.ref nb4), .val (.int (1 : Int32)), .val (.int (0 : Int32)), .val (.int b1), .val (.int b2), .val (.int (0 : Int32)), .val (.int (1 : Int32)), .val (.int (0 : Int32)), .val (.int (1 : Int32)), .val (.int (0 : Int32))] [])
              refine own_st (fun t_ k_ => XS.iload X42.here hx rfl (hb hby at_248) rfl k_) ?_
              show own_Go p e below _ T42 (mkF m 250 #[.val (.int ops), .val (.int c0), .val (.int c1), .val (.int flags), .val (.ref nb1), .val (.ref nb4), .val (.int (1 : Int32)), .val (.int (0 : Int32)), .val (.int b1), .val (.int b2), .val (.int (0 : Int32)), .val (.int (1 : Int32)), .val (.int (0 : Int32)), .val (.int (1 : Int32)), .val (.int (0 : Int32))] [(.int (1 : Int32))])
              refine own_st (fun t_ k_ => XS.iload X42.here hx rfl (hb hby at_250) rfl k_) ?_
              show own_Go p e below _ T42 (mkF m 252 #[.val (.int ops), .val (.int c0), .val (.int c1), .val (.int flags), .val (.ref nb1), .val (.ref nb4), .val (.int (1 : Int32)), .val (.int (0 : Int32)), .val (.int b1), .val (.int b2), .val (.int (0 : Int32)), .val (.int (1 : Int32)), .val (.int (0 : Int32)), .val (.int (1 : Int32)), .val (.int (0 : Int32))] [(.int (1 : Int32)), (.int (1 : Int32))])
              refine own_st (fun t_ k_ => XS.icmpNo X42.here hx rfl (hb hby at_252) rfl (by decide) k_) ?_
              show own_Go p e below _ T42 (mkF m 255 #[.val (.int ops), .val (.int c0), .val (.int c1), .val (.int flags), .val (.ref nb1), .val (.ref nb4), .val (.int (1 : Int32)), .val (.int (0 : Int32)), .val (.int b1), .val (.int b2), .val (.int (0 : Int32)), .val (.int (1 : Int32)), .val (.int (0 : Int32)), .val (.int (1 : Int32)), .val (.int (0 : Int32))] [])
              refine own_st (fun t_ k_ => XS.iload X42.here hx rfl (hb hby at_255) rfl k_) ?_
              show own_Go p e below _ T42 (mkF m 257 #[.val (.int ops), .val (.int c0), .val (.int c1), .val (.int flags), .val (.ref nb1), .val (.ref nb4), .val (.int (1 : Int32)), .val (.int (0 : Int32)), .val (.int b1), .val (.int b2), .val (.int (0 : Int32)), .val (.int (1 : Int32)), .val (.int (0 : Int32)), .val (.int (1 : Int32)), .val (.int (0 : Int32))] [(.int (0 : Int32))])
              refine own_st (fun t_ k_ => XS.iload X42.here hx rfl (hb hby at_257) rfl k_) ?_
              show own_Go p e below _ T42 (mkF m 259 #[.val (.int ops), .val (.int c0), .val (.int c1), .val (.int flags), .val (.ref nb1), .val (.ref nb4), .val (.int (1 : Int32)), .val (.int (0 : Int32)), .val (.int b1), .val (.int b2), .val (.int (0 : Int32)), .val (.int (1 : Int32)), .val (.int (0 : Int32)), .val (.int (1 : Int32)), .val (.int (0 : Int32))] [(.int (0 : Int32)), (.int (0 : Int32))])
              refine own_st (fun t_ k_ => XS.icmpNo X42.here hx rfl (hb hby at_259) rfl (by decide) k_) ?_
              show own_Go p e below _ T42 (mkF m 262 #[.val (.int ops), .val (.int c0), .val (.int c1), .val (.int flags), .val (.ref nb1), .val (.ref nb4), .val (.int (1 : Int32)), .val (.int (0 : Int32)), .val (.int b1), .val (.int b2), .val (.int (0 : Int32)), .val (.int (1 : Int32)), .val (.int (0 : Int32)), .val (.int (1 : Int32)), .val (.int (0 : Int32))] [])
              refine own_st (fun t_ k_ => XS.iconst X42.here hx rfl (hb hby at_262) k_) ?_
              show own_Go p e below _ T42 (mkF m 263 #[.val (.int ops), .val (.int c0), .val (.int c1), .val (.int flags), .val (.ref nb1), .val (.ref nb4), .val (.int (1 : Int32)), .val (.int (0 : Int32)), .val (.int b1), .val (.int b2), .val (.int (0 : Int32)), .val (.int (1 : Int32)), .val (.int (0 : Int32)), .val (.int (1 : Int32)), .val (.int (0 : Int32))] [(.int (1 : Int32))])
              refine own_st (fun t_ k_ => XS.goto X42.here hx rfl (pc0 := 263) (pc' := 267) rfl (hb hby at_263) (by decide) (by decide) k_) ?_
              show own_Go p e below _ T42 (mkF m 267 #[.val (.int ops), .val (.int c0), .val (.int c1), .val (.int flags), .val (.ref nb1), .val (.ref nb4), .val (.int (1 : Int32)), .val (.int (0 : Int32)), .val (.int b1), .val (.int b2), .val (.int (0 : Int32)), .val (.int (1 : Int32)), .val (.int (0 : Int32)), .val (.int (1 : Int32)), .val (.int (0 : Int32))] [(.int (1 : Int32))])
              refine own_retN X42 hx hlk (t := .boolean) Bd.returns (by simp) (hb hby at_267) ?_ (by decide) (by decide)
              show Q0 n0 _ T42.heap _
              rw [hh42]
              exact ⟨rfl, N42⟩
            · show own_Go p e below _ T26 (mkF m 108 #[.val (.int ops), .val (.int c0), .val (.int c1), .val (.int flags), .val (.ref nb1), .val (.ref nb4), .val (.int (1 : Int32)), .val (.int (1 : Int32)), .val (.int b1), .val (.int b2), .unset, .unset, .unset, .unset, .unset] [(.int (1 : Int32)), (.ref nb4)])
              obtain ⟨cq45, kq45, q45a, q45b, q45c⟩ := isOf hZ rfl Eq26
              refine own_callV X26 hx (y := (⟨"com/example/kapu/kapu/service/Coverage$Part", "cover", "(Z)V"⟩ : MethodName)) (z := (⟨"com/example/kapu/kapu/service/Coverage$Part", "cover", "(Z)V"⟩ : MethodName)) hown (mvT hZ (hw _ (List.mem_of_getElem? (i := 50) rfl))) (mvT hZ (hw _ (List.mem_of_getElem? (i := 51) rfl))) (notFace_of_selects (args := #[]) (mvT hZ (hw _ (List.mem_of_getElem? (i := 53) rfl)))) (mvT hZ (hw _ (List.mem_of_getElem? (i := 53) rfl))) (mvT hZ (hw _ (List.mem_of_getElem? (i := 52) rfl))) (by decide) (backOf (W := 0) (rmC1 l Z a0 hw [] nb4 nb5 bz (0 : Int32) (0 : Int32) T26.heap n0 (Nat.le_trans Z0 K26.1) g_nb4 Eq26 Fq26_0 Fq26_1 Fq26_2 Fq26_3) hZ (hw _ (List.mem_of_getElem? (i := 54) rfl)) (hw _ (List.mem_of_getElem? (i := 3) rfl)) (by decide) (by decide)) q45a q45c (g := (mkF m 108 #[.val (.int ops), .val (.int c0), .val (.int c1), .val (.int flags), .val (.ref nb1), .val (.ref nb4), .val (.int (1 : Int32)), .val (.int (1 : Int32)), .val (.int b1), .val (.int b2), .unset, .unset, .unset, .unset, .unset] [(.int (1 : Int32)), (.ref nb4)])) rfl (by rw [hml]; rfl) (argsL := [(.int (1 : Int32))]) (rest := []) (lenOf pd_3 rfl) rfl (by show 2 * 0 + _ ≤ _; exact Nat.le_of_eq rfl) (hb hby at_108) rfl rfl (by decide) (by decide) ?_
              rintro v44 T44 L44 X44 ⟨rfl, Nq44, Kq44, Eq44, Fq44_0, Fq44_1, Fq44_2, Fq44_3⟩
              have N44 := Fr.app N26 Nq44
              have K44 : Keep h0 T44.heap [] := K26.trans Kq44 (allS (Or.inr sz_nb4) all0)
              show own_Go p e below _ T44 (mkF m 111 #[.val (.int ops), .val (.int c0), .val (.int c1), .val (.int flags), .val (.ref nb1), .val (.ref nb4), .val (.int (1 : Int32)), .val (.int (1 : Int32)), .val (.int b1), .val (.int b2), .unset, .unset, .unset, .unset, .unset] [])
              refine own_st (fun t_ k_ => XS.iload X44.here hx rfl (hb hby at_111) rfl k_) ?_
              show own_Go p e below _ T44 (mkF m 113 #[.val (.int ops), .val (.int c0), .val (.int c1), .val (.int flags), .val (.ref nb1), .val (.ref nb4), .val (.int (1 : Int32)), .val (.int (1 : Int32)), .val (.int b1), .val (.int b2), .unset, .unset, .unset, .unset, .unset] [(.int (1 : Int32))])
              refine own_st (fun t_ k_ => XS.iconst X44.here hx rfl (hb hby at_113) k_) ?_
              show own_Go p e below _ T44 (mkF m 114 #[.val (.int ops), .val (.int c0), .val (.int c1), .val (.int flags), .val (.ref nb1), .val (.ref nb4), .val (.int (1 : Int32)), .val (.int (1 : Int32)), .val (.int b1), .val (.int b2), .unset, .unset, .unset, .unset, .unset] [(.int (2 : Int32)), (.int (1 : Int32))])
              refine own_st (fun t_ k_ => XS.icmpYes X44.here hx rfl (pc0 := 114) (pc' := 124) rfl (hb hby at_114) rfl (by decide) (by decide) (by decide) k_) ?_
              show own_Go p e below _ T44 (mkF m 124 #[.val (.int ops), .val (.int c0), .val (.int c1), .val (.int flags), .val (.ref nb1), .val (.ref nb4), .val (.int (1 : Int32)), .val (.int (1 : Int32)), .val (.int b1), .val (.int b2), .unset, .unset, .unset, .unset, .unset] [])
              refine own_st (fun t_ k_ => XS.iload X44.here hx rfl (hb hby at_124) rfl k_) ?_
              show own_Go p e below _ T44 (mkF m 126 #[.val (.int ops), .val (.int c0), .val (.int c1), .val (.int flags), .val (.ref nb1), .val (.ref nb4), .val (.int (1 : Int32)), .val (.int (1 : Int32)), .val (.int b1), .val (.int b2), .unset, .unset, .unset, .unset, .unset] [(.int (1 : Int32))])
              refine own_st (fun t_ k_ => XS.iconst X44.here hx rfl (hb hby at_126) k_) ?_
              show own_Go p e below _ T44 (mkF m 127 #[.val (.int ops), .val (.int c0), .val (.int c1), .val (.int flags), .val (.ref nb1), .val (.ref nb4), .val (.int (1 : Int32)), .val (.int (1 : Int32)), .val (.int b1), .val (.int b2), .unset, .unset, .unset, .unset, .unset] [(.int (3 : Int32)), (.int (1 : Int32))])
              refine own_st (fun t_ k_ => XS.icmpYes X44.here hx rfl (pc0 := 127) (pc' := 137) rfl (hb hby at_127) rfl (by decide) (by decide) (by decide) k_) ?_
              show own_Go p e below _ T44 (mkF m 137 #[.val (.int ops), .val (.int c0), .val (.int c1), .val (.int flags), .val (.ref nb1), .val (.ref nb4), .val (.int (1 : Int32)), .val (.int (1 : Int32)), .val (.int b1), .val (.int b2), .unset, .unset, .unset, .unset, .unset] [])
              refine own_st (fun t_ k_ => XS.iload X44.here hx rfl (hb hby at_137) rfl k_) ?_
              show own_Go p e below _ T44 (mkF m 139 #[.val (.int ops), .val (.int c0), .val (.int c1), .val (.int flags), .val (.ref nb1), .val (.ref nb4), .val (.int (1 : Int32)), .val (.int (1 : Int32)), .val (.int b1), .val (.int b2), .unset, .unset, .unset, .unset, .unset] [(.int (1 : Int32))])
              refine own_st (fun t_ k_ => XS.iconst X44.here hx rfl (hb hby at_139) k_) ?_
              show own_Go p e below _ T44 (mkF m 140 #[.val (.int ops), .val (.int c0), .val (.int c1), .val (.int flags), .val (.ref nb1), .val (.ref nb4), .val (.int (1 : Int32)), .val (.int (1 : Int32)), .val (.int b1), .val (.int b2), .unset, .unset, .unset, .unset, .unset] [(.int (1 : Int32)), (.int (1 : Int32))])
              refine own_st (fun t_ k_ => XS.icmpNo X44.here hx rfl (hb hby at_140) rfl (by decide) k_) ?_
              show own_Go p e below _ T44 (mkF m 143 #[.val (.int ops), .val (.int c0), .val (.int c1), .val (.int flags), .val (.ref nb1), .val (.ref nb4), .val (.int (1 : Int32)), .val (.int (1 : Int32)), .val (.int b1), .val (.int b2), .unset, .unset, .unset, .unset, .unset] [])
              refine own_st (fun t_ k_ => XS.iload X44.here hx rfl (hb hby at_143) rfl k_) ?_
              show own_Go p e below _ T44 (mkF m 145 #[.val (.int ops), .val (.int c0), .val (.int c1), .val (.int flags), .val (.ref nb1), .val (.ref nb4), .val (.int (1 : Int32)), .val (.int (1 : Int32)), .val (.int b1), .val (.int b2), .unset, .unset, .unset, .unset, .unset] [(.int (1 : Int32))])
              refine own_st (fun t_ k_ => XS.ifYes X44.here hx rfl (pc0 := 145) (pc' := 170) rfl (hb hby at_145) rfl (by decide) (by decide) (by decide) k_) ?_
              show own_Go p e below _ T44 (mkF m 170 #[.val (.int ops), .val (.int c0), .val (.int c1), .val (.int flags), .val (.ref nb1), .val (.ref nb4), .val (.int (1 : Int32)), .val (.int (1 : Int32)), .val (.int b1), .val (.int b2), .unset, .unset, .unset, .unset, .unset] [])
              refine own_st (fun t_ k_ => XS.iconst X44.here hx rfl (hb hby at_170) k_) ?_
              show own_Go p e below _ T44 (mkF m 171 #[.val (.int ops), .val (.int c0), .val (.int c1), .val (.int flags), .val (.ref nb1), .val (.ref nb4), .val (.int (1 : Int32)), .val (.int (1 : Int32)), .val (.int b1), .val (.int b2), .unset, .unset, .unset, .unset, .unset] [(.int (1 : Int32))])
              refine own_st (fun t_ k_ => XS.goto X44.here hx rfl (pc0 := 171) (pc' := 175) rfl (hb hby at_171) (by decide) (by decide) k_) ?_
              show own_Go p e below _ T44 (mkF m 175 #[.val (.int ops), .val (.int c0), .val (.int c1), .val (.int flags), .val (.ref nb1), .val (.ref nb4), .val (.int (1 : Int32)), .val (.int (1 : Int32)), .val (.int b1), .val (.int b2), .unset, .unset, .unset, .unset, .unset] [(.int (1 : Int32))])
              refine own_st (fun t_ k_ => XS.istore X44.here hx rfl (hb hby at_175) rfl (l' := #[.val (.int ops), .val (.int c0), .val (.int c1), .val (.int flags), .val (.ref nb1), .val (.ref nb4), .val (.int (1 : Int32)), .val (.int (1 : Int32)), .val (.int b1), .val (.int b2), .val (.int (1 : Int32)), .unset, .unset, .unset, .unset]) rfl k_) ?_
              show own_Go p e below _ T44 (mkF m 177 #[.val (.int ops), .val (.int c0), .val (.int c1), .val (.int flags), .val (.ref nb1), .val (.ref nb4), .val (.int (1 : Int32)), .val (.int (1 : Int32)), .val (.int b1), .val (.int b2), .val (.int (1 : Int32)), .unset, .unset, .unset, .unset] [])
              refine own_st (fun t_ k_ => XS.iload X44.here hx rfl (hb hby at_177) rfl k_) ?_
              show own_Go p e below _ T44 (mkF m 179 #[.val (.int ops), .val (.int c0), .val (.int c1), .val (.int flags), .val (.ref nb1), .val (.ref nb4), .val (.int (1 : Int32)), .val (.int (1 : Int32)), .val (.int b1), .val (.int b2), .val (.int (1 : Int32)), .unset, .unset, .unset, .unset] [(.int (1 : Int32))])
              refine own_st (fun t_ k_ => XS.iconst X44.here hx rfl (hb hby at_179) k_) ?_
              show own_Go p e below _ T44 (mkF m 180 #[.val (.int ops), .val (.int c0), .val (.int c1), .val (.int flags), .val (.ref nb1), .val (.ref nb4), .val (.int (1 : Int32)), .val (.int (1 : Int32)), .val (.int b1), .val (.int b2), .val (.int (1 : Int32)), .unset, .unset, .unset, .unset] [(.int (1 : Int32)), (.int (1 : Int32))])
              refine own_st (fun t_ k_ => XS.icmpNo X44.here hx rfl (hb hby at_180) rfl (by decide) k_) ?_
              show own_Go p e below _ T44 (mkF m 183 #[.val (.int ops), .val (.int c0), .val (.int c1), .val (.int flags), .val (.ref nb1), .val (.ref nb4), .val (.int (1 : Int32)), .val (.int (1 : Int32)), .val (.int b1), .val (.int b2), .val (.int (1 : Int32)), .unset, .unset, .unset, .unset] [])
              refine own_st (fun t_ k_ => XS.iload X44.here hx rfl (hb hby at_183) rfl k_) ?_
              show own_Go p e below _ T44 (mkF m 185 #[.val (.int ops), .val (.int c0), .val (.int c1), .val (.int flags), .val (.ref nb1), .val (.ref nb4), .val (.int (1 : Int32)), .val (.int (1 : Int32)), .val (.int b1), .val (.int b2), .val (.int (1 : Int32)), .unset, .unset, .unset, .unset] [(.int (1 : Int32))])
              refine own_st (fun t_ k_ => XS.ifNo X44.here hx rfl (hb hby at_185) rfl (by decide) k_) ?_
              show own_Go p e below _ T44 (mkF m 188 #[.val (.int ops), .val (.int c0), .val (.int c1), .val (.int flags), .val (.ref nb1), .val (.ref nb4), .val (.int (1 : Int32)), .val (.int (1 : Int32)), .val (.int b1), .val (.int b2), .val (.int (1 : Int32)), .unset, .unset, .unset, .unset] [])
              refine own_st (fun t_ k_ => XS.iload X44.here hx rfl (hb hby at_188) rfl k_) ?_
              show own_Go p e below _ T44 (mkF m 190 #[.val (.int ops), .val (.int c0), .val (.int c1), .val (.int flags), .val (.ref nb1), .val (.ref nb4), .val (.int (1 : Int32)), .val (.int (1 : Int32)), .val (.int b1), .val (.int b2), .val (.int (1 : Int32)), .unset, .unset, .unset, .unset] [(.int (1 : Int32))])
              refine own_st (fun t_ k_ => XS.iconst X44.here hx rfl (hb hby at_190) k_) ?_
              show own_Go p e below _ T44 (mkF m 191 #[.val (.int ops), .val (.int c0), .val (.int c1), .val (.int flags), .val (.ref nb1), .val (.ref nb4), .val (.int (1 : Int32)), .val (.int (1 : Int32)), .val (.int b1), .val (.int b2), .val (.int (1 : Int32)), .unset, .unset, .unset, .unset] [(.int (2 : Int32)), (.int (1 : Int32))])
              refine own_st (fun t_ k_ => XS.icmpYes X44.here hx rfl (pc0 := 191) (pc' := 199) rfl (hb hby at_191) rfl (by decide) (by decide) (by decide) k_) ?_
              show own_Go p e below _ T44 (mkF m 199 #[.val (.int ops), .val (.int c0), .val (.int c1), .val (.int flags), .val (.ref nb1), .val (.ref nb4), .val (.int (1 : Int32)), .val (.int (1 : Int32)), .val (.int b1), .val (.int b2), .val (.int (1 : Int32)), .unset, .unset, .unset, .unset] [])
              refine own_st (fun t_ k_ => XS.iload X44.here hx rfl (hb hby at_199) rfl k_) ?_
              show own_Go p e below _ T44 (mkF m 201 #[.val (.int ops), .val (.int c0), .val (.int c1), .val (.int flags), .val (.ref nb1), .val (.ref nb4), .val (.int (1 : Int32)), .val (.int (1 : Int32)), .val (.int b1), .val (.int b2), .val (.int (1 : Int32)), .unset, .unset, .unset, .unset] [(.int (1 : Int32))])
              refine own_st (fun t_ k_ => XS.iconst X44.here hx rfl (hb hby at_201) k_) ?_
              show own_Go p e below _ T44 (mkF m 202 #[.val (.int ops), .val (.int c0), .val (.int c1), .val (.int flags), .val (.ref nb1), .val (.ref nb4), .val (.int (1 : Int32)), .val (.int (1 : Int32)), .val (.int b1), .val (.int b2), .val (.int (1 : Int32)), .unset, .unset, .unset, .unset] [(.int (3 : Int32)), (.int (1 : Int32))])
              refine own_st (fun t_ k_ => XS.icmpYes X44.here hx rfl (pc0 := 202) (pc' := 214) rfl (hb hby at_202) rfl (by decide) (by decide) (by decide) k_) ?_
              show own_Go p e below _ T44 (mkF m 214 #[.val (.int ops), .val (.int c0), .val (.int c1), .val (.int flags), .val (.ref nb1), .val (.ref nb4), .val (.int (1 : Int32)), .val (.int (1 : Int32)), .val (.int b1), .val (.int b2), .val (.int (1 : Int32)), .unset, .unset, .unset, .unset] [])
              refine own_st (fun t_ k_ => XS.iconst X44.here hx rfl (hb hby at_214) k_) ?_
              show own_Go p e below _ T44 (mkF m 215 #[.val (.int ops), .val (.int c0), .val (.int c1), .val (.int flags), .val (.ref nb1), .val (.ref nb4), .val (.int (1 : Int32)), .val (.int (1 : Int32)), .val (.int b1), .val (.int b2), .val (.int (1 : Int32)), .unset, .unset, .unset, .unset] [(.int (0 : Int32))])
              refine own_st (fun t_ k_ => XS.istore X44.here hx rfl (hb hby at_215) rfl (l' := #[.val (.int ops), .val (.int c0), .val (.int c1), .val (.int flags), .val (.ref nb1), .val (.ref nb4), .val (.int (1 : Int32)), .val (.int (1 : Int32)), .val (.int b1), .val (.int b2), .val (.int (1 : Int32)), .val (.int (0 : Int32)), .unset, .unset, .unset]) rfl k_) ?_
              show own_Go p e below _ T44 (mkF m 217 #[.val (.int ops), .val (.int c0), .val (.int c1), .val (.int flags), .val (.ref nb1), .val (.ref nb4), .val (.int (1 : Int32)), .val (.int (1 : Int32)), .val (.int b1), .val (.int b2), .val (.int (1 : Int32)), .val (.int (0 : Int32)), .unset, .unset, .unset] [])
              refine own_st (fun t_ k_ => XS.aload X44.here hx rfl (hb hby at_217) rfl rfl k_) ?_
              show own_Go p e below _ T44 (mkF m 219 #[.val (.int ops), .val (.int c0), .val (.int c1), .val (.int flags), .val (.ref nb1), .val (.ref nb4), .val (.int (1 : Int32)), .val (.int (1 : Int32)), .val (.int b1), .val (.int b2), .val (.int (1 : Int32)), .val (.int (0 : Int32)), .unset, .unset, .unset] [(.ref nb4)])
              refine own_st (fun t_ k_ => XS.iconst X44.here hx rfl (hb hby at_219) k_) ?_
              show own_Go p e below _ T44 (mkF m 220 #[.val (.int ops), .val (.int c0), .val (.int c1), .val (.int flags), .val (.ref nb1), .val (.ref nb4), .val (.int (1 : Int32)), .val (.int (1 : Int32)), .val (.int b1), .val (.int b2), .val (.int (1 : Int32)), .val (.int (0 : Int32)), .unset, .unset, .unset] [(.int (1 : Int32)), (.ref nb4)])
              obtain ⟨cq47, kq47, q47a, q47b, q47c⟩ := isOf hZ rfl Eq44
              refine own_callV X44 hx (y := (⟨"com/example/kapu/kapu/service/Coverage$Part", "isCovered", "(Z)Z"⟩ : MethodName)) (z := (⟨"com/example/kapu/kapu/service/Coverage$Part", "isCovered", "(Z)Z"⟩ : MethodName)) hown (mvT hZ (hw _ (List.mem_of_getElem? (i := 41) rfl))) (mvT hZ (hw _ (List.mem_of_getElem? (i := 42) rfl))) (notFace_of_selects (args := #[]) (mvT hZ (hw _ (List.mem_of_getElem? (i := 44) rfl)))) (mvT hZ (hw _ (List.mem_of_getElem? (i := 44) rfl))) (mvT hZ (hw _ (List.mem_of_getElem? (i := 43) rfl))) (by decide) (backOf (W := 0) (rmV1 l Z a0 hw [] nb4 (1 : Int32) T44.heap n0 (Nat.le_trans Z0 K44.1) Fq44_2 rfl) hZ (hw _ (List.mem_of_getElem? (i := 45) rfl)) (hw _ (List.mem_of_getElem? (i := 3) rfl)) (by decide) (by decide)) q47a q47c (g := (mkF m 220 #[.val (.int ops), .val (.int c0), .val (.int c1), .val (.int flags), .val (.ref nb1), .val (.ref nb4), .val (.int (1 : Int32)), .val (.int (1 : Int32)), .val (.int b1), .val (.int b2), .val (.int (1 : Int32)), .val (.int (0 : Int32)), .unset, .unset, .unset] [(.int (1 : Int32)), (.ref nb4)])) rfl (by rw [hml]; rfl) (argsL := [(.int (1 : Int32))]) (rest := []) (lenOf pd_2 rfl) rfl (by show 2 * 0 + _ ≤ _; exact Nat.le_of_eq rfl) (hb hby at_220) rfl rfl (by decide) (by decide) ?_
              rintro v46 T46 L46 X46 ⟨rfl, Nq46, hh46⟩
              have N46 := Fr.app N44 Nq46
              show own_Go p e below _ T46 (mkF m 223 #[.val (.int ops), .val (.int c0), .val (.int c1), .val (.int flags), .val (.ref nb1), .val (.ref nb4), .val (.int (1 : Int32)), .val (.int (1 : Int32)), .val (.int b1), .val (.int b2), .val (.int (1 : Int32)), .val (.int (0 : Int32)), .unset, .unset, .unset] [(.int (1 : Int32))])
              refine own_st (fun t_ k_ => XS.istore X46.here hx rfl (hb hby at_223) rfl (l' := #[.val (.int ops), .val (.int c0), .val (.int c1), .val (.int flags), .val (.ref nb1), .val (.ref nb4), .val (.int (1 : Int32)), .val (.int (1 : Int32)), .val (.int b1), .val (.int b2), .val (.int (1 : Int32)), .val (.int (0 : Int32)), .val (.int (1 : Int32)), .unset, .unset]) rfl k_) ?_
              show own_Go p e below _ T46 (mkF m 225 #[.val (.int ops), .val (.int c0), .val (.int c1), .val (.int flags), .val (.ref nb1), .val (.ref nb4), .val (.int (1 : Int32)), .val (.int (1 : Int32)), .val (.int b1), .val (.int b2), .val (.int (1 : Int32)), .val (.int (0 : Int32)), .val (.int (1 : Int32)), .unset, .unset] [])
              refine own_st (fun t_ k_ => XS.aload X46.here hx rfl (hb hby at_225) rfl rfl k_) ?_
              show own_Go p e below _ T46 (mkF m 227 #[.val (.int ops), .val (.int c0), .val (.int c1), .val (.int flags), .val (.ref nb1), .val (.ref nb4), .val (.int (1 : Int32)), .val (.int (1 : Int32)), .val (.int b1), .val (.int b2), .val (.int (1 : Int32)), .val (.int (0 : Int32)), .val (.int (1 : Int32)), .unset, .unset] [(.ref nb4)])
              refine own_st (fun t_ k_ => XS.iconst X46.here hx rfl (hb hby at_227) k_) ?_
              show own_Go p e below _ T46 (mkF m 228 #[.val (.int ops), .val (.int c0), .val (.int c1), .val (.int flags), .val (.ref nb1), .val (.ref nb4), .val (.int (1 : Int32)), .val (.int (1 : Int32)), .val (.int b1), .val (.int b2), .val (.int (1 : Int32)), .val (.int (0 : Int32)), .val (.int (1 : Int32)), .unset, .unset] [(.int (0 : Int32)), (.ref nb4)])
              obtain ⟨cq49, kq49, q49a, q49b, q49c⟩ := isOf hZ hh46 Eq44
              refine own_callV X46 hx (y := (⟨"com/example/kapu/kapu/service/Coverage$Part", "isCovered", "(Z)Z"⟩ : MethodName)) (z := (⟨"com/example/kapu/kapu/service/Coverage$Part", "isCovered", "(Z)Z"⟩ : MethodName)) hown (mvT hZ (hw _ (List.mem_of_getElem? (i := 41) rfl))) (mvT hZ (hw _ (List.mem_of_getElem? (i := 42) rfl))) (notFace_of_selects (args := #[]) (mvT hZ (hw _ (List.mem_of_getElem? (i := 44) rfl)))) (mvT hZ (hw _ (List.mem_of_getElem? (i := 44) rfl))) (mvT hZ (hw _ (List.mem_of_getElem? (i := 43) rfl))) (by decide) (backOf (W := 0) (rmV0 l Z a0 hw [] nb4 (0 : Int32) T44.heap n0 (Nat.le_trans Z0 K44.1) Fq44_3 rfl) hZ (hw _ (List.mem_of_getElem? (i := 45) rfl)) (hw _ (List.mem_of_getElem? (i := 3) rfl)) (by decide) (by decide)) q49a q49c (g := (mkF m 228 #[.val (.int ops), .val (.int c0), .val (.int c1), .val (.int flags), .val (.ref nb1), .val (.ref nb4), .val (.int (1 : Int32)), .val (.int (1 : Int32)), .val (.int b1), .val (.int b2), .val (.int (1 : Int32)), .val (.int (0 : Int32)), .val (.int (1 : Int32)), .unset, .unset] [(.int (0 : Int32)), (.ref nb4)])) rfl (by rw [hml]; rfl) (argsL := [(.int (0 : Int32))]) (rest := []) (lenOf pd_2 rfl) rfl (by show 2 * 0 + _ ≤ _; exact Nat.le_of_eq rfl) (hb hby at_228) rfl hh46 (by decide) (by decide) ?_
              rintro v48 T48 L48 X48 ⟨rfl, Nq48, hh48⟩
              have N48 := Fr.app N46 Nq48
              show own_Go p e below _ T48 (mkF m 231 #[.val (.int ops), .val (.int c0), .val (.int c1), .val (.int flags), .val (.ref nb1), .val (.ref nb4), .val (.int (1 : Int32)), .val (.int (1 : Int32)), .val (.int b1), .val (.int b2), .val (.int (1 : Int32)), .val (.int (0 : Int32)), .val (.int (1 : Int32)), .unset, .unset] [(.int (0 : Int32))])
              refine own_st (fun t_ k_ => XS.istore X48.here hx rfl (hb hby at_231) rfl (l' := #[.val (.int ops), .val (.int c0), .val (.int c1), .val (.int flags), .val (.ref nb1), .val (.ref nb4), .val (.int (1 : Int32)), .val (.int (1 : Int32)), .val (.int b1), .val (.int b2), .val (.int (1 : Int32)), .val (.int (0 : Int32)), .val (.int (1 : Int32)), .val (.int (0 : Int32)), .unset]) rfl k_) ?_
              show own_Go p e below _ T48 (mkF m 233 #[.val (.int ops), .val (.int c0), .val (.int c1), .val (.int flags), .val (.ref nb1), .val (.ref nb4), .val (.int (1 : Int32)), .val (.int (1 : Int32)), .val (.int b1), .val (.int b2), .val (.int (1 : Int32)), .val (.int (0 : Int32)), .val (.int (1 : Int32)), .val (.int (0 : Int32)), .unset] [])
              refine own_st (fun t_ k_ => XS.aload X48.here hx rfl (hb hby at_233) rfl rfl k_) ?_
              show own_Go p e below _ T48 (mkF m 235 #[.val (.int ops), .val (.int c0), .val (.int c1), .val (.int flags), .val (.ref nb1), .val (.ref nb4), .val (.int (1 : Int32)), .val (.int (1 : Int32)), .val (.int b1), .val (.int b2), .val (.int (1 : Int32)), .val (.int (0 : Int32)), .val (.int (1 : Int32)), .val (.int (0 : Int32)), .unset] [(.ref nb4)])
              refine own_st (fun t_ k_ => XS.iconst X48.here hx rfl (hb hby at_235) k_) ?_
              show own_Go p e below _ T48 (mkF m 236 #[.val (.int ops), .val (.int c0), .val (.int c1), .val (.int flags), .val (.ref nb1), .val (.ref nb4), .val (.int (1 : Int32)), .val (.int (1 : Int32)), .val (.int b1), .val (.int b2), .val (.int (1 : Int32)), .val (.int (0 : Int32)), .val (.int (1 : Int32)), .val (.int (0 : Int32)), .unset] [(.int (1 : Int32)), (.ref nb4)])
              obtain ⟨cq51, kq51, q51a, q51b, q51c⟩ := isOf hZ hh48 Eq44
              refine own_callV X48 hx (y := (⟨"com/example/kapu/kapu/service/Coverage$Part", "isCovered", "(Z)Z"⟩ : MethodName)) (z := (⟨"com/example/kapu/kapu/service/Coverage$Part", "isCovered", "(Z)Z"⟩ : MethodName)) hown (mvT hZ (hw _ (List.mem_of_getElem? (i := 41) rfl))) (mvT hZ (hw _ (List.mem_of_getElem? (i := 42) rfl))) (notFace_of_selects (args := #[]) (mvT hZ (hw _ (List.mem_of_getElem? (i := 44) rfl)))) (mvT hZ (hw _ (List.mem_of_getElem? (i := 44) rfl))) (mvT hZ (hw _ (List.mem_of_getElem? (i := 43) rfl))) (by decide) (backOf (W := 0) (rmV1 l Z a0 hw [] nb4 (1 : Int32) T44.heap n0 (Nat.le_trans Z0 K44.1) Fq44_2 rfl) hZ (hw _ (List.mem_of_getElem? (i := 45) rfl)) (hw _ (List.mem_of_getElem? (i := 3) rfl)) (by decide) (by decide)) q51a q51c (g := (mkF m 236 #[.val (.int ops), .val (.int c0), .val (.int c1), .val (.int flags), .val (.ref nb1), .val (.ref nb4), .val (.int (1 : Int32)), .val (.int (1 : Int32)), .val (.int b1), .val (.int b2), .val (.int (1 : Int32)), .val (.int (0 : Int32)), .val (.int (1 : Int32)), .val (.int (0 : Int32)), .unset] [(.int (1 : Int32)), (.ref nb4)])) rfl (by rw [hml]; rfl) (argsL := [(.int (1 : Int32))]) (rest := []) (lenOf pd_2 rfl) rfl (by show 2 * 0 + _ ≤ _; exact Nat.le_of_eq rfl) (hb hby at_236) rfl hh48 (by decide) (by decide) ?_
              rintro v50 T50 L50 X50 ⟨rfl, Nq50, hh50⟩
              have N50 := Fr.app N48 Nq50
              show own_Go p e below _ T50 (mkF m 239 #[.val (.int ops), .val (.int c0), .val (.int c1), .val (.int flags), .val (.ref nb1), .val (.ref nb4), .val (.int (1 : Int32)), .val (.int (1 : Int32)), .val (.int b1), .val (.int b2), .val (.int (1 : Int32)), .val (.int (0 : Int32)), .val (.int (1 : Int32)), .val (.int (0 : Int32)), .unset] [(.int (1 : Int32))])
              refine own_st (fun t_ k_ => XS.istore X50.here hx rfl (hb hby at_239) rfl (l' := #[.val (.int ops), .val (.int c0), .val (.int c1), .val (.int flags), .val (.ref nb1), .val (.ref nb4), .val (.int (1 : Int32)), .val (.int (1 : Int32)), .val (.int b1), .val (.int b2), .val (.int (1 : Int32)), .val (.int (0 : Int32)), .val (.int (1 : Int32)), .val (.int (0 : Int32)), .val (.int (1 : Int32))]) rfl k_) ?_
              show own_Go p e below _ T50 (mkF m 241 #[.val (.int ops), .val (.int c0), .val (.int c1), .val (.int flags), .val (.ref nb1), .val (.ref nb4), .val (.int (1 : Int32)), .val (.int (1 : Int32)), .val (.int b1), .val (.int b2), .val (.int (1 : Int32)), .val (.int (0 : Int32)), .val (.int (1 : Int32)), .val (.int (0 : Int32)), .val (.int (1 : Int32))] [])
              refine own_st (fun t_ k_ => XS.iload X50.here hx rfl (hb hby at_241) rfl k_) ?_
              show own_Go p e below _ T50 (mkF m 243 #[.val (.int ops), .val (.int c0), .val (.int c1), .val (.int flags), .val (.ref nb1), .val (.ref nb4), .val (.int (1 : Int32)), .val (.int (1 : Int32)), .val (.int b1), .val (.int b2), .val (.int (1 : Int32)), .val (.int (0 : Int32)), .val (.int (1 : Int32)), .val (.int (0 : Int32)), .val (.int (1 : Int32))] [(.int (1 : Int32))])
              refine own_st (fun t_ k_ => XS.iload X50.here hx rfl (hb hby at_243) rfl k_) ?_
              show own_Go p e below _ T50 (mkF m 245 #[.val (.int ops), .val (.int c0), .val (.int c1), .val (.int flags), .val (.ref nb1), .val (.ref nb4), .val (.int (1 : Int32)), .val (.int (1 : Int32)), .val (.int b1), .val (.int b2), .val (.int (1 : Int32)), .val (.int (0 : Int32)), .val (.int (1 : Int32)), .val (.int (0 : Int32)), .val (.int (1 : Int32))] [(.int (1 : Int32)), (.int (1 : Int32))])
              refine own_st (fun t_ k_ => XS.icmpNo X50.here hx rfl (hb hby at_245) rfl (by decide) k_) ?_
              show own_Go p e below _ T50 (mkF m 248 #[.val (.int ops), .val (.int c0), .val (.int c1), .val (.int flags), .val (.ref nb1), .val (.ref nb4), .val (.int (1 : Int32)), .val (.int (1 : Int32)), .val (.int b1), .val (.int b2), .val (.int (1 : Int32)), .val (.int (0 : Int32)), .val (.int (1 : Int32)), .val (.int (0 : Int32)), .val (.int (1 : Int32))] [])
              refine own_st (fun t_ k_ => XS.iload X50.here hx rfl (hb hby at_248) rfl k_) ?_
              show own_Go p e below _ T50 (mkF m 250 #[.val (.int ops), .val (.int c0), .val (.int c1), .val (.int flags), .val (.ref nb1), .val (.ref nb4), .val (.int (1 : Int32)), .val (.int (1 : Int32)), .val (.int b1), .val (.int b2), .val (.int (1 : Int32)), .val (.int (0 : Int32)), .val (.int (1 : Int32)), .val (.int (0 : Int32)), .val (.int (1 : Int32))] [(.int (0 : Int32))])
              refine own_st (fun t_ k_ => XS.iload X50.here hx rfl (hb hby at_250) rfl k_) ?_
              show own_Go p e below _ T50 (mkF m 252 #[.val (.int ops), .val (.int c0), .val (.int c1), .val (.int flags), .val (.ref nb1), .val (.ref nb4), .val (.int (1 : Int32)), .val (.int (1 : Int32)), .val (.int b1), .val (.int b2), .val (.int (1 : Int32)), .val (.int (0 : Int32)), .val (.int (1 : Int32)), .val (.int (0 : Int32)), .val (.int (1 : Int32))] [(.int (0 : Int32)), (.int (0 : Int32))])
              refine own_st (fun t_ k_ => XS.icmpNo X50.here hx rfl (hb hby at_252) rfl (by decide) k_) ?_
              show own_Go p e below _ T50 (mkF m 255 #[.val (.int ops), .val (.int c0), .val (.int c1), .val (.int flags), .val (.ref nb1), .val (.ref nb4), .val (.int (1 : Int32)), .val (.int (1 : Int32)), .val (.int b1), .val (.int b2), .val (.int (1 : Int32)), .val (.int (0 : Int32)), .val (.int (1 : Int32)), .val (.int (0 : Int32)), .val (.int (1 : Int32))] [])
              refine own_st (fun t_ k_ => XS.iload X50.here hx rfl (hb hby at_255) rfl k_) ?_
              show own_Go p e below _ T50 (mkF m 257 #[.val (.int ops), .val (.int c0), .val (.int c1), .val (.int flags), .val (.ref nb1), .val (.ref nb4), .val (.int (1 : Int32)), .val (.int (1 : Int32)), .val (.int b1), .val (.int b2), .val (.int (1 : Int32)), .val (.int (0 : Int32)), .val (.int (1 : Int32)), .val (.int (0 : Int32)), .val (.int (1 : Int32))] [(.int (1 : Int32))])
              refine own_st (fun t_ k_ => XS.iload X50.here hx rfl (hb hby at_257) rfl k_) ?_
              show own_Go p e below _ T50 (mkF m 259 #[.val (.int ops), .val (.int c0), .val (.int c1), .val (.int flags), .val (.ref nb1), .val (.ref nb4), .val (.int (1 : Int32)), .val (.int (1 : Int32)), .val (.int b1), .val (.int b2), .val (.int (1 : Int32)), .val (.int (0 : Int32)), .val (.int (1 : Int32)), .val (.int (0 : Int32)), .val (.int (1 : Int32))] [(.int (1 : Int32)), (.int (1 : Int32))])
              refine own_st (fun t_ k_ => XS.icmpNo X50.here hx rfl (hb hby at_259) rfl (by decide) k_) ?_
              show own_Go p e below _ T50 (mkF m 262 #[.val (.int ops), .val (.int c0), .val (.int c1), .val (.int flags), .val (.ref nb1), .val (.ref nb4), .val (.int (1 : Int32)), .val (.int (1 : Int32)), .val (.int b1), .val (.int b2), .val (.int (1 : Int32)), .val (.int (0 : Int32)), .val (.int (1 : Int32)), .val (.int (0 : Int32)), .val (.int (1 : Int32))] [])
              refine own_st (fun t_ k_ => XS.iconst X50.here hx rfl (hb hby at_262) k_) ?_
              show own_Go p e below _ T50 (mkF m 263 #[.val (.int ops), .val (.int c0), .val (.int c1), .val (.int flags), .val (.ref nb1), .val (.ref nb4), .val (.int (1 : Int32)), .val (.int (1 : Int32)), .val (.int b1), .val (.int b2), .val (.int (1 : Int32)), .val (.int (0 : Int32)), .val (.int (1 : Int32)), .val (.int (0 : Int32)), .val (.int (1 : Int32))] [(.int (1 : Int32))])
              refine own_st (fun t_ k_ => XS.goto X50.here hx rfl (pc0 := 263) (pc' := 267) rfl (hb hby at_263) (by decide) (by decide) k_) ?_
              show own_Go p e below _ T50 (mkF m 267 #[.val (.int ops), .val (.int c0), .val (.int c1), .val (.int flags), .val (.ref nb1), .val (.ref nb4), .val (.int (1 : Int32)), .val (.int (1 : Int32)), .val (.int b1), .val (.int b2), .val (.int (1 : Int32)), .val (.int (0 : Int32)), .val (.int (1 : Int32)), .val (.int (0 : Int32)), .val (.int (1 : Int32))] [(.int (1 : Int32))])
              refine own_retN X50 hx hlk (t := .boolean) Bd.returns (by simp) (hb hby at_267) ?_ (by decide) (by decide)
              show Q0 n0 _ T50.heap _
              rw [hh50]
              exact ⟨rfl, N50⟩
          · show own_Go p e below _ T26 (mkF m 98 #[.val (.int ops), .val (.int c0), .val (.int c1), .val (.int flags), .val (.ref nb1), .val (.ref nb4), .val (.int (2 : Int32)), .val (.int b0), .val (.int b1), .val (.int b2), .unset, .unset, .unset, .unset, .unset] [])
            refine own_st (fun t_ k_ => XS.iload X26.here hx rfl (hb hby at_98) rfl k_) ?_
            show own_Go p e below _ T26 (mkF m 100 #[.val (.int ops), .val (.int c0), .val (.int c1), .val (.int flags), .val (.ref nb1), .val (.ref nb4), .val (.int (2 : Int32)), .val (.int b0), .val (.int b1), .val (.int b2), .unset, .unset, .unset, .unset, .unset] [(.int (2 : Int32))])
            refine own_st (fun t_ k_ => XS.iconst X26.here hx rfl (hb hby at_100) k_) ?_
            show own_Go p e below _ T26 (mkF m 101 #[.val (.int ops), .val (.int c0), .val (.int c1), .val (.int flags), .val (.ref nb1), .val (.ref nb4), .val (.int (2 : Int32)), .val (.int b0), .val (.int b1), .val (.int b2), .unset, .unset, .unset, .unset, .unset] [(.int (1 : Int32)), (.int (2 : Int32))])
            refine own_st (fun t_ k_ => XS.icmpNo X26.here hx rfl (hb hby at_101) rfl (by decide) k_) ?_
            show own_Go p e below _ T26 (mkF m 104 #[.val (.int ops), .val (.int c0), .val (.int c1), .val (.int flags), .val (.ref nb1), .val (.ref nb4), .val (.int (2 : Int32)), .val (.int b0), .val (.int b1), .val (.int b2), .unset, .unset, .unset, .unset, .unset] [])
            refine own_st (fun t_ k_ => XS.aload X26.here hx rfl (hb hby at_104) rfl rfl k_) ?_
            show own_Go p e below _ T26 (mkF m 106 #[.val (.int ops), .val (.int c0), .val (.int c1), .val (.int flags), .val (.ref nb1), .val (.ref nb4), .val (.int (2 : Int32)), .val (.int b0), .val (.int b1), .val (.int b2), .unset, .unset, .unset, .unset, .unset] [(.ref nb4)])
            refine own_st (fun t_ k_ => XS.iload X26.here hx rfl (hb hby at_106) rfl k_) ?_
            show own_Go p e below _ T26 (mkF m 108 #[.val (.int ops), .val (.int c0), .val (.int c1), .val (.int flags), .val (.ref nb1), .val (.ref nb4), .val (.int (2 : Int32)), .val (.int b0), .val (.int b1), .val (.int b2), .unset, .unset, .unset, .unset, .unset] [(.int b0), (.ref nb4)])
            rcases (h_b0 : b0 = (0 : Int32) ∨ b0 = (1 : Int32)) with rfl | rfl
            · show own_Go p e below _ T26 (mkF m 108 #[.val (.int ops), .val (.int c0), .val (.int c1), .val (.int flags), .val (.ref nb1), .val (.ref nb4), .val (.int (2 : Int32)), .val (.int (0 : Int32)), .val (.int b1), .val (.int b2), .unset, .unset, .unset, .unset, .unset] [(.int (0 : Int32)), (.ref nb4)])
              obtain ⟨cq53, kq53, q53a, q53b, q53c⟩ := isOf hZ rfl Eq26
              refine own_callV X26 hx (y := (⟨"com/example/kapu/kapu/service/Coverage$Part", "cover", "(Z)V"⟩ : MethodName)) (z := (⟨"com/example/kapu/kapu/service/Coverage$Part", "cover", "(Z)V"⟩ : MethodName)) hown (mvT hZ (hw _ (List.mem_of_getElem? (i := 50) rfl))) (mvT hZ (hw _ (List.mem_of_getElem? (i := 51) rfl))) (notFace_of_selects (args := #[]) (mvT hZ (hw _ (List.mem_of_getElem? (i := 53) rfl)))) (mvT hZ (hw _ (List.mem_of_getElem? (i := 53) rfl))) (mvT hZ (hw _ (List.mem_of_getElem? (i := 52) rfl))) (by decide) (backOf (W := 0) (rmC0 l Z a0 hw [] nb4 nb5 bz (0 : Int32) (0 : Int32) T26.heap n0 (Nat.le_trans Z0 K26.1) g_nb4 Eq26 Fq26_0 Fq26_1 Fq26_2 Fq26_3) hZ (hw _ (List.mem_of_getElem? (i := 54) rfl)) (hw _ (List.mem_of_getElem? (i := 3) rfl)) (by decide) (by decide)) q53a q53c (g := (mkF m 108 #[.val (.int ops), .val (.int c0), .val (.int c1), .val (.int flags), .val (.ref nb1), .val (.ref nb4), .val (.int (2 : Int32)), .val (.int (0 : Int32)), .val (.int b1), .val (.int b2), .unset, .unset, .unset, .unset, .unset] [(.int (0 : Int32)), (.ref nb4)])) rfl (by rw [hml]; rfl) (argsL := [(.int (0 : Int32))]) (rest := []) (lenOf pd_3 rfl) rfl (by show 2 * 0 + _ ≤ _; exact Nat.le_of_eq rfl) (hb hby at_108) rfl rfl (by decide) (by decide) ?_
              rintro v52 T52 L52 X52 ⟨rfl, Nq52, Kq52, Eq52, Fq52_0, Fq52_1, Fq52_2, Fq52_3⟩
              have N52 := Fr.app N26 Nq52
              have K52 : Keep h0 T52.heap [] := K26.trans Kq52 (allS (Or.inr sz_nb4) all0)
              show own_Go p e below _ T52 (mkF m 111 #[.val (.int ops), .val (.int c0), .val (.int c1), .val (.int flags), .val (.ref nb1), .val (.ref nb4), .val (.int (2 : Int32)), .val (.int (0 : Int32)), .val (.int b1), .val (.int b2), .unset, .unset, .unset, .unset, .unset] [])
              refine own_st (fun t_ k_ => XS.iload X52.here hx rfl (hb hby at_111) rfl k_) ?_
              show own_Go p e below _ T52 (mkF m 113 #[.val (.int ops), .val (.int c0), .val (.int c1), .val (.int flags), .val (.ref nb1), .val (.ref nb4), .val (.int (2 : Int32)), .val (.int (0 : Int32)), .val (.int b1), .val (.int b2), .unset, .unset, .unset, .unset, .unset] [(.int (2 : Int32))])
              refine own_st (fun t_ k_ => XS.iconst X52.here hx rfl (hb hby at_113) k_) ?_
              show own_Go p e below _ T52 (mkF m 114 #[.val (.int ops), .val (.int c0), .val (.int c1), .val (.int flags), .val (.ref nb1), .val (.ref nb4), .val (.int (2 : Int32)), .val (.int (0 : Int32)), .val (.int b1), .val (.int b2), .unset, .unset, .unset, .unset, .unset] [(.int (2 : Int32)), (.int (2 : Int32))])
              refine own_st (fun t_ k_ => XS.icmpNo X52.here hx rfl (hb hby at_114) rfl (by decide) k_) ?_
              show own_Go p e below _ T52 (mkF m 117 #[.val (.int ops), .val (.int c0), .val (.int c1), .val (.int flags), .val (.ref nb1), .val (.ref nb4), .val (.int (2 : Int32)), .val (.int (0 : Int32)), .val (.int b1), .val (.int b2), .unset, .unset, .unset, .unset, .unset] [])
              refine own_st (fun t_ k_ => XS.aload X52.here hx rfl (hb hby at_117) rfl rfl k_) ?_
              show own_Go p e below _ T52 (mkF m 119 #[.val (.int ops), .val (.int c0), .val (.int c1), .val (.int flags), .val (.ref nb1), .val (.ref nb4), .val (.int (2 : Int32)), .val (.int (0 : Int32)), .val (.int b1), .val (.int b2), .unset, .unset, .unset, .unset, .unset] [(.ref nb4)])
              refine own_st (fun t_ k_ => XS.iload X52.here hx rfl (hb hby at_119) rfl k_) ?_
              show own_Go p e below _ T52 (mkF m 121 #[.val (.int ops), .val (.int c0), .val (.int c1), .val (.int flags), .val (.ref nb1), .val (.ref nb4), .val (.int (2 : Int32)), .val (.int (0 : Int32)), .val (.int b1), .val (.int b2), .unset, .unset, .unset, .unset, .unset] [(.int b1), (.ref nb4)])
              rcases (h_b1 : b1 = (0 : Int32) ∨ b1 = (1 : Int32)) with rfl | rfl
              · show own_Go p e below _ T52 (mkF m 121 #[.val (.int ops), .val (.int c0), .val (.int c1), .val (.int flags), .val (.ref nb1), .val (.ref nb4), .val (.int (2 : Int32)), .val (.int (0 : Int32)), .val (.int (0 : Int32)), .val (.int b2), .unset, .unset, .unset, .unset, .unset] [(.int (0 : Int32)), (.ref nb4)])
                obtain ⟨cq55, kq55, q55a, q55b, q55c⟩ := isOf hZ rfl Eq52
                refine own_callV X52 hx (y := (⟨"com/example/kapu/kapu/service/Coverage$Part", "cover", "(Z)V"⟩ : MethodName)) (z := (⟨"com/example/kapu/kapu/service/Coverage$Part", "cover", "(Z)V"⟩ : MethodName)) hown (mvT hZ (hw _ (List.mem_of_getElem? (i := 50) rfl))) (mvT hZ (hw _ (List.mem_of_getElem? (i := 51) rfl))) (notFace_of_selects (args := #[]) (mvT hZ (hw _ (List.mem_of_getElem? (i := 53) rfl)))) (mvT hZ (hw _ (List.mem_of_getElem? (i := 53) rfl))) (mvT hZ (hw _ (List.mem_of_getElem? (i := 52) rfl))) (by decide) (backOf (W := 0) (rmC0 l Z a0 hw [] nb4 nb5 bz (0 : Int32) (1 : Int32) T52.heap n0 (Nat.le_trans Z0 K52.1) g_nb4 Eq52 Fq52_0 Fq52_1 Fq52_2 Fq52_3) hZ (hw _ (List.mem_of_getElem? (i := 54) rfl)) (hw _ (List.mem_of_getElem? (i := 3) rfl)) (by decide) (by decide)) q55a q55c (g := (mkF m 121 #[.val (.int ops), .val (.int c0), .val (.int c1), .val (.int flags), .val (.ref nb1), .val (.ref nb4), .val (.int (2 : Int32)), .val (.int (0 : Int32)), .val (.int (0 : Int32)), .val (.int b2), .unset, .unset, .unset, .unset, .unset] [(.int (0 : Int32)), (.ref nb4)])) rfl (by rw [hml]; rfl) (argsL := [(.int (0 : Int32))]) (rest := []) (lenOf pd_3 rfl) rfl (by show 2 * 0 + _ ≤ _; exact Nat.le_of_eq rfl) (hb hby at_121) rfl rfl (by decide) (by decide) ?_
                rintro v54 T54 L54 X54 ⟨rfl, Nq54, Kq54, Eq54, Fq54_0, Fq54_1, Fq54_2, Fq54_3⟩
                have N54 := Fr.app N52 Nq54
                have K54 : Keep h0 T54.heap [] := K52.trans Kq54 (allS (Or.inr sz_nb4) all0)
                show own_Go p e below _ T54 (mkF m 124 #[.val (.int ops), .val (.int c0), .val (.int c1), .val (.int flags), .val (.ref nb1), .val (.ref nb4), .val (.int (2 : Int32)), .val (.int (0 : Int32)), .val (.int (0 : Int32)), .val (.int b2), .unset, .unset, .unset, .unset, .unset] [])
                refine own_st (fun t_ k_ => XS.iload X54.here hx rfl (hb hby at_124) rfl k_) ?_
                show own_Go p e below _ T54 (mkF m 126 #[.val (.int ops), .val (.int c0), .val (.int c1), .val (.int flags), .val (.ref nb1), .val (.ref nb4), .val (.int (2 : Int32)), .val (.int (0 : Int32)), .val (.int (0 : Int32)), .val (.int b2), .unset, .unset, .unset, .unset, .unset] [(.int (2 : Int32))])
                refine own_st (fun t_ k_ => XS.iconst X54.here hx rfl (hb hby at_126) k_) ?_
                show own_Go p e below _ T54 (mkF m 127 #[.val (.int ops), .val (.int c0), .val (.int c1), .val (.int flags), .val (.ref nb1), .val (.ref nb4), .val (.int (2 : Int32)), .val (.int (0 : Int32)), .val (.int (0 : Int32)), .val (.int b2), .unset, .unset, .unset, .unset, .unset] [(.int (3 : Int32)), (.int (2 : Int32))])
                refine own_st (fun t_ k_ => XS.icmpYes X54.here hx rfl (pc0 := 127) (pc' := 137) rfl (hb hby at_127) rfl (by decide) (by decide) (by decide) k_) ?_
                show own_Go p e below _ T54 (mkF m 137 #[.val (.int ops), .val (.int c0), .val (.int c1), .val (.int flags), .val (.ref nb1), .val (.ref nb4), .val (.int (2 : Int32)), .val (.int (0 : Int32)), .val (.int (0 : Int32)), .val (.int b2), .unset, .unset, .unset, .unset, .unset] [])
                refine own_st (fun t_ k_ => XS.iload X54.here hx rfl (hb hby at_137) rfl k_) ?_
                show own_Go p e below _ T54 (mkF m 139 #[.val (.int ops), .val (.int c0), .val (.int c1), .val (.int flags), .val (.ref nb1), .val (.ref nb4), .val (.int (2 : Int32)), .val (.int (0 : Int32)), .val (.int (0 : Int32)), .val (.int b2), .unset, .unset, .unset, .unset, .unset] [(.int (2 : Int32))])
                refine own_st (fun t_ k_ => XS.iconst X54.here hx rfl (hb hby at_139) k_) ?_
                show own_Go p e below _ T54 (mkF m 140 #[.val (.int ops), .val (.int c0), .val (.int c1), .val (.int flags), .val (.ref nb1), .val (.ref nb4), .val (.int (2 : Int32)), .val (.int (0 : Int32)), .val (.int (0 : Int32)), .val (.int b2), .unset, .unset, .unset, .unset, .unset] [(.int (1 : Int32)), (.int (2 : Int32))])
                refine own_st (fun t_ k_ => XS.icmpNo X54.here hx rfl (hb hby at_140) rfl (by decide) k_) ?_
                show own_Go p e below _ T54 (mkF m 143 #[.val (.int ops), .val (.int c0), .val (.int c1), .val (.int flags), .val (.ref nb1), .val (.ref nb4), .val (.int (2 : Int32)), .val (.int (0 : Int32)), .val (.int (0 : Int32)), .val (.int b2), .unset, .unset, .unset, .unset, .unset] [])
                refine own_st (fun t_ k_ => XS.iload X54.here hx rfl (hb hby at_143) rfl k_) ?_
                show own_Go p e below _ T54 (mkF m 145 #[.val (.int ops), .val (.int c0), .val (.int c1), .val (.int flags), .val (.ref nb1), .val (.ref nb4), .val (.int (2 : Int32)), .val (.int (0 : Int32)), .val (.int (0 : Int32)), .val (.int b2), .unset, .unset, .unset, .unset, .unset] [(.int (0 : Int32))])
                refine own_st (fun t_ k_ => XS.ifNo X54.here hx rfl (hb hby at_145) rfl (by decide) k_) ?_
                show own_Go p e below _ T54 (mkF m 148 #[.val (.int ops), .val (.int c0), .val (.int c1), .val (.int flags), .val (.ref nb1), .val (.ref nb4), .val (.int (2 : Int32)), .val (.int (0 : Int32)), .val (.int (0 : Int32)), .val (.int b2), .unset, .unset, .unset, .unset, .unset] [])
                refine own_st (fun t_ k_ => XS.iload X54.here hx rfl (hb hby at_148) rfl k_) ?_
                show own_Go p e below _ T54 (mkF m 150 #[.val (.int ops), .val (.int c0), .val (.int c1), .val (.int flags), .val (.ref nb1), .val (.ref nb4), .val (.int (2 : Int32)), .val (.int (0 : Int32)), .val (.int (0 : Int32)), .val (.int b2), .unset, .unset, .unset, .unset, .unset] [(.int (2 : Int32))])
                refine own_st (fun t_ k_ => XS.iconst X54.here hx rfl (hb hby at_150) k_) ?_
                show own_Go p e below _ T54 (mkF m 151 #[.val (.int ops), .val (.int c0), .val (.int c1), .val (.int flags), .val (.ref nb1), .val (.ref nb4), .val (.int (2 : Int32)), .val (.int (0 : Int32)), .val (.int (0 : Int32)), .val (.int b2), .unset, .unset, .unset, .unset, .unset] [(.int (2 : Int32)), (.int (2 : Int32))])
                refine own_st (fun t_ k_ => XS.icmpNo X54.here hx rfl (hb hby at_151) rfl (by decide) k_) ?_
                show own_Go p e below _ T54 (mkF m 154 #[.val (.int ops), .val (.int c0), .val (.int c1), .val (.int flags), .val (.ref nb1), .val (.ref nb4), .val (.int (2 : Int32)), .val (.int (0 : Int32)), .val (.int (0 : Int32)), .val (.int b2), .unset, .unset, .unset, .unset, .unset] [])
                refine own_st (fun t_ k_ => XS.iload X54.here hx rfl (hb hby at_154) rfl k_) ?_
                show own_Go p e below _ T54 (mkF m 156 #[.val (.int ops), .val (.int c0), .val (.int c1), .val (.int flags), .val (.ref nb1), .val (.ref nb4), .val (.int (2 : Int32)), .val (.int (0 : Int32)), .val (.int (0 : Int32)), .val (.int b2), .unset, .unset, .unset, .unset, .unset] [(.int (0 : Int32))])
                refine own_st (fun t_ k_ => XS.ifNo X54.here hx rfl (hb hby at_156) rfl (by decide) k_) ?_
                show own_Go p e below _ T54 (mkF m 159 #[.val (.int ops), .val (.int c0), .val (.int c1), .val (.int flags), .val (.ref nb1), .val (.ref nb4), .val (.int (2 : Int32)), .val (.int (0 : Int32)), .val (.int (0 : Int32)), .val (.int b2), .unset, .unset, .unset, .unset, .unset] [])
                refine own_st (fun t_ k_ => XS.iload X54.here hx rfl (hb hby at_159) rfl k_) ?_
                show own_Go p e below _ T54 (mkF m 161 #[.val (.int ops), .val (.int c0), .val (.int c1), .val (.int flags), .val (.ref nb1), .val (.ref nb4), .val (.int (2 : Int32)), .val (.int (0 : Int32)), .val (.int (0 : Int32)), .val (.int b2), .unset, .unset, .unset, .unset, .unset] [(.int (2 : Int32))])
                refine own_st (fun t_ k_ => XS.iconst X54.here hx rfl (hb hby at_161) k_) ?_
                show own_Go p e below _ T54 (mkF m 162 #[.val (.int ops), .val (.int c0), .val (.int c1), .val (.int flags), .val (.ref nb1), .val (.ref nb4), .val (.int (2 : Int32)), .val (.int (0 : Int32)), .val (.int (0 : Int32)), .val (.int b2), .unset, .unset, .unset, .unset, .unset] [(.int (3 : Int32)), (.int (2 : Int32))])
                refine own_st (fun t_ k_ => XS.icmpYes X54.here hx rfl (pc0 := 162) (pc' := 174) rfl (hb hby at_162) rfl (by decide) (by decide) (by decide) k_) ?_
                show own_Go p e below _ T54 (mkF m 174 #[.val (.int ops), .val (.int c0), .val (.int c1), .val (.int flags), .val (.ref nb1), .val (.ref nb4), .val (.int (2 : Int32)), .val (.int (0 : Int32)), .val (.int (0 : Int32)), .val (.int b2), .unset, .unset, .unset, .unset, .unset] [])
                refine own_st (fun t_ k_ => XS.iconst X54.here hx rfl (hb hby at_174) k_) ?_
                show own_Go p e below _ T54 (mkF m 175 #[.val (.int ops), .val (.int c0), .val (.int c1), .val (.int flags), .val (.ref nb1), .val (.ref nb4), .val (.int (2 : Int32)), .val (.int (0 : Int32)), .val (.int (0 : Int32)), .val (.int b2), .unset, .unset, .unset, .unset, .unset] [(.int (0 : Int32))])
                refine own_st (fun t_ k_ => XS.istore X54.here hx rfl (hb hby at_175) rfl (l' := #[.val (.int ops), .val (.int c0), .val (.int c1), .val (.int flags), .val (.ref nb1), .val (.ref nb4), .val (.int (2 : Int32)), .val (.int (0 : Int32)), .val (.int (0 : Int32)), .val (.int b2), .val (.int (0 : Int32)), .unset, .unset, .unset, .unset]) rfl k_) ?_
                show own_Go p e below _ T54 (mkF m 177 #[.val (.int ops), .val (.int c0), .val (.int c1), .val (.int flags), .val (.ref nb1), .val (.ref nb4), .val (.int (2 : Int32)), .val (.int (0 : Int32)), .val (.int (0 : Int32)), .val (.int b2), .val (.int (0 : Int32)), .unset, .unset, .unset, .unset] [])
                refine own_st (fun t_ k_ => XS.iload X54.here hx rfl (hb hby at_177) rfl k_) ?_
                show own_Go p e below _ T54 (mkF m 179 #[.val (.int ops), .val (.int c0), .val (.int c1), .val (.int flags), .val (.ref nb1), .val (.ref nb4), .val (.int (2 : Int32)), .val (.int (0 : Int32)), .val (.int (0 : Int32)), .val (.int b2), .val (.int (0 : Int32)), .unset, .unset, .unset, .unset] [(.int (2 : Int32))])
                refine own_st (fun t_ k_ => XS.iconst X54.here hx rfl (hb hby at_179) k_) ?_
                show own_Go p e below _ T54 (mkF m 180 #[.val (.int ops), .val (.int c0), .val (.int c1), .val (.int flags), .val (.ref nb1), .val (.ref nb4), .val (.int (2 : Int32)), .val (.int (0 : Int32)), .val (.int (0 : Int32)), .val (.int b2), .val (.int (0 : Int32)), .unset, .unset, .unset, .unset] [(.int (1 : Int32)), (.int (2 : Int32))])
                refine own_st (fun t_ k_ => XS.icmpNo X54.here hx rfl (hb hby at_180) rfl (by decide) k_) ?_
                show own_Go p e below _ T54 (mkF m 183 #[.val (.int ops), .val (.int c0), .val (.int c1), .val (.int flags), .val (.ref nb1), .val (.ref nb4), .val (.int (2 : Int32)), .val (.int (0 : Int32)), .val (.int (0 : Int32)), .val (.int b2), .val (.int (0 : Int32)), .unset, .unset, .unset, .unset] [])
                refine own_st (fun t_ k_ => XS.iload X54.here hx rfl (hb hby at_183) rfl k_) ?_
                show own_Go p e below _ T54 (mkF m 185 #[.val (.int ops), .val (.int c0), .val (.int c1), .val (.int flags), .val (.ref nb1), .val (.ref nb4), .val (.int (2 : Int32)), .val (.int (0 : Int32)), .val (.int (0 : Int32)), .val (.int b2), .val (.int (0 : Int32)), .unset, .unset, .unset, .unset] [(.int (0 : Int32))])
                refine own_st (fun t_ k_ => XS.ifYes X54.here hx rfl (pc0 := 185) (pc' := 210) rfl (hb hby at_185) rfl (by decide) (by decide) (by decide) k_) ?_
                show own_Go p e below _ T54 (mkF m 210 #[.val (.int ops), .val (.int c0), .val (.int c1), .val (.int flags), .val (.ref nb1), .val (.ref nb4), .val (.int (2 : Int32)), .val (.int (0 : Int32)), .val (.int (0 : Int32)), .val (.int b2), .val (.int (0 : Int32)), .unset, .unset, .unset, .unset] [])
                refine own_st (fun t_ k_ => XS.iconst X54.here hx rfl (hb hby at_210) k_) ?_
                show own_Go p e below _ T54 (mkF m 211 #[.val (.int ops), .val (.int c0), .val (.int c1), .val (.int flags), .val (.ref nb1), .val (.ref nb4), .val (.int (2 : Int32)), .val (.int (0 : Int32)), .val (.int (0 : Int32)), .val (.int b2), .val (.int (0 : Int32)), .unset, .unset, .unset, .unset] [(.int (1 : Int32))])
                refine own_st (fun t_ k_ => XS.goto X54.here hx rfl (pc0 := 211) (pc' := 215) rfl (hb hby at_211) (by decide) (by decide) k_) ?_
                show own_Go p e below _ T54 (mkF m 215 #[.val (.int ops), .val (.int c0), .val (.int c1), .val (.int flags), .val (.ref nb1), .val (.ref nb4), .val (.int (2 : Int32)), .val (.int (0 : Int32)), .val (.int (0 : Int32)), .val (.int b2), .val (.int (0 : Int32)), .unset, .unset, .unset, .unset] [(.int (1 : Int32))])
                refine own_st (fun t_ k_ => XS.istore X54.here hx rfl (hb hby at_215) rfl (l' := #[.val (.int ops), .val (.int c0), .val (.int c1), .val (.int flags), .val (.ref nb1), .val (.ref nb4), .val (.int (2 : Int32)), .val (.int (0 : Int32)), .val (.int (0 : Int32)), .val (.int b2), .val (.int (0 : Int32)), .val (.int (1 : Int32)), .unset, .unset, .unset]) rfl k_) ?_
                show own_Go p e below _ T54 (mkF m 217 #[.val (.int ops), .val (.int c0), .val (.int c1), .val (.int flags), .val (.ref nb1), .val (.ref nb4), .val (.int (2 : Int32)), .val (.int (0 : Int32)), .val (.int (0 : Int32)), .val (.int b2), .val (.int (0 : Int32)), .val (.int (1 : Int32)), .unset, .unset, .unset] [])
                refine own_st (fun t_ k_ => XS.aload X54.here hx rfl (hb hby at_217) rfl rfl k_) ?_
                show own_Go p e below _ T54 (mkF m 219 #[.val (.int ops), .val (.int c0), .val (.int c1), .val (.int flags), .val (.ref nb1), .val (.ref nb4), .val (.int (2 : Int32)), .val (.int (0 : Int32)), .val (.int (0 : Int32)), .val (.int b2), .val (.int (0 : Int32)), .val (.int (1 : Int32)), .unset, .unset, .unset] [(.ref nb4)])
                refine own_st (fun t_ k_ => XS.iconst X54.here hx rfl (hb hby at_219) k_) ?_
                show own_Go p e below _ T54 (mkF m 220 #[.val (.int ops), .val (.int c0), .val (.int c1), .val (.int flags), .val (.ref nb1), .val (.ref nb4), .val (.int (2 : Int32)), .val (.int (0 : Int32)), .val (.int (0 : Int32)), .val (.int b2), .val (.int (0 : Int32)), .val (.int (1 : Int32)), .unset, .unset, .unset] [(.int (1 : Int32)), (.ref nb4)])
                obtain ⟨cq57, kq57, q57a, q57b, q57c⟩ := isOf hZ rfl Eq54
                refine own_callV X54 hx (y := (⟨"com/example/kapu/kapu/service/Coverage$Part", "isCovered", "(Z)Z"⟩ : MethodName)) (z := (⟨"com/example/kapu/kapu/service/Coverage$Part", "isCovered", "(Z)Z"⟩ : MethodName)) hown (mvT hZ (hw _ (List.mem_of_getElem? (i := 41) rfl))) (mvT hZ (hw _ (List.mem_of_getElem? (i := 42) rfl))) (notFace_of_selects (args := #[]) (mvT hZ (hw _ (List.mem_of_getElem? (i := 44) rfl)))) (mvT hZ (hw _ (List.mem_of_getElem? (i := 44) rfl))) (mvT hZ (hw _ (List.mem_of_getElem? (i := 43) rfl))) (by decide) (backOf (W := 0) (rmV1 l Z a0 hw [] nb4 (0 : Int32) T54.heap n0 (Nat.le_trans Z0 K54.1) Fq54_2 rfl) hZ (hw _ (List.mem_of_getElem? (i := 45) rfl)) (hw _ (List.mem_of_getElem? (i := 3) rfl)) (by decide) (by decide)) q57a q57c (g := (mkF m 220 #[.val (.int ops), .val (.int c0), .val (.int c1), .val (.int flags), .val (.ref nb1), .val (.ref nb4), .val (.int (2 : Int32)), .val (.int (0 : Int32)), .val (.int (0 : Int32)), .val (.int b2), .val (.int (0 : Int32)), .val (.int (1 : Int32)), .unset, .unset, .unset] [(.int (1 : Int32)), (.ref nb4)])) rfl (by rw [hml]; rfl) (argsL := [(.int (1 : Int32))]) (rest := []) (lenOf pd_2 rfl) rfl (by show 2 * 0 + _ ≤ _; exact Nat.le_of_eq rfl) (hb hby at_220) rfl rfl (by decide) (by decide) ?_
                rintro v56 T56 L56 X56 ⟨rfl, Nq56, hh56⟩
                have N56 := Fr.app N54 Nq56
                show own_Go p e below _ T56 (mkF m 223 #[.val (.int ops), .val (.int c0), .val (.int c1), .val (.int flags), .val (.ref nb1), .val (.ref nb4), .val (.int (2 : Int32)), .val (.int (0 : Int32)), .val (.int (0 : Int32)), .val (.int b2), .val (.int (0 : Int32)), .val (.int (1 : Int32)), .unset, .unset, .unset] [(.int (0 : Int32))])
                refine own_st (fun t_ k_ => XS.istore X56.here hx rfl (hb hby at_223) rfl (l' := #[.val (.int ops), .val (.int c0), .val (.int c1), .val (.int flags), .val (.ref nb1), .val (.ref nb4), .val (.int (2 : Int32)), .val (.int (0 : Int32)), .val (.int (0 : Int32)), .val (.int b2), .val (.int (0 : Int32)), .val (.int (1 : Int32)), .val (.int (0 : Int32)), .unset, .unset]) rfl k_) ?_
                show own_Go p e below _ T56 (mkF m 225 #[.val (.int ops), .val (.int c0), .val (.int c1), .val (.int flags), .val (.ref nb1), .val (.ref nb4), .val (.int (2 : Int32)), .val (.int (0 : Int32)), .val (.int (0 : Int32)), .val (.int b2), .val (.int (0 : Int32)), .val (.int (1 : Int32)), .val (.int (0 : Int32)), .unset, .unset] [])
                refine own_st (fun t_ k_ => XS.aload X56.here hx rfl (hb hby at_225) rfl rfl k_) ?_
                show own_Go p e below _ T56 (mkF m 227 #[.val (.int ops), .val (.int c0), .val (.int c1), .val (.int flags), .val (.ref nb1), .val (.ref nb4), .val (.int (2 : Int32)), .val (.int (0 : Int32)), .val (.int (0 : Int32)), .val (.int b2), .val (.int (0 : Int32)), .val (.int (1 : Int32)), .val (.int (0 : Int32)), .unset, .unset] [(.ref nb4)])
                refine own_st (fun t_ k_ => XS.iconst X56.here hx rfl (hb hby at_227) k_) ?_
                show own_Go p e below _ T56 (mkF m 228 #[.val (.int ops), .val (.int c0), .val (.int c1), .val (.int flags), .val (.ref nb1), .val (.ref nb4), .val (.int (2 : Int32)), .val (.int (0 : Int32)), .val (.int (0 : Int32)), .val (.int b2), .val (.int (0 : Int32)), .val (.int (1 : Int32)), .val (.int (0 : Int32)), .unset, .unset] [(.int (0 : Int32)), (.ref nb4)])
                obtain ⟨cq59, kq59, q59a, q59b, q59c⟩ := isOf hZ hh56 Eq54
                refine own_callV X56 hx (y := (⟨"com/example/kapu/kapu/service/Coverage$Part", "isCovered", "(Z)Z"⟩ : MethodName)) (z := (⟨"com/example/kapu/kapu/service/Coverage$Part", "isCovered", "(Z)Z"⟩ : MethodName)) hown (mvT hZ (hw _ (List.mem_of_getElem? (i := 41) rfl))) (mvT hZ (hw _ (List.mem_of_getElem? (i := 42) rfl))) (notFace_of_selects (args := #[]) (mvT hZ (hw _ (List.mem_of_getElem? (i := 44) rfl)))) (mvT hZ (hw _ (List.mem_of_getElem? (i := 44) rfl))) (mvT hZ (hw _ (List.mem_of_getElem? (i := 43) rfl))) (by decide) (backOf (W := 0) (rmV0 l Z a0 hw [] nb4 (1 : Int32) T54.heap n0 (Nat.le_trans Z0 K54.1) Fq54_3 rfl) hZ (hw _ (List.mem_of_getElem? (i := 45) rfl)) (hw _ (List.mem_of_getElem? (i := 3) rfl)) (by decide) (by decide)) q59a q59c (g := (mkF m 228 #[.val (.int ops), .val (.int c0), .val (.int c1), .val (.int flags), .val (.ref nb1), .val (.ref nb4), .val (.int (2 : Int32)), .val (.int (0 : Int32)), .val (.int (0 : Int32)), .val (.int b2), .val (.int (0 : Int32)), .val (.int (1 : Int32)), .val (.int (0 : Int32)), .unset, .unset] [(.int (0 : Int32)), (.ref nb4)])) rfl (by rw [hml]; rfl) (argsL := [(.int (0 : Int32))]) (rest := []) (lenOf pd_2 rfl) rfl (by show 2 * 0 + _ ≤ _; exact Nat.le_of_eq rfl) (hb hby at_228) rfl hh56 (by decide) (by decide) ?_
                rintro v58 T58 L58 X58 ⟨rfl, Nq58, hh58⟩
                have N58 := Fr.app N56 Nq58
                show own_Go p e below _ T58 (mkF m 231 #[.val (.int ops), .val (.int c0), .val (.int c1), .val (.int flags), .val (.ref nb1), .val (.ref nb4), .val (.int (2 : Int32)), .val (.int (0 : Int32)), .val (.int (0 : Int32)), .val (.int b2), .val (.int (0 : Int32)), .val (.int (1 : Int32)), .val (.int (0 : Int32)), .unset, .unset] [(.int (1 : Int32))])
                refine own_st (fun t_ k_ => XS.istore X58.here hx rfl (hb hby at_231) rfl (l' := #[.val (.int ops), .val (.int c0), .val (.int c1), .val (.int flags), .val (.ref nb1), .val (.ref nb4), .val (.int (2 : Int32)), .val (.int (0 : Int32)), .val (.int (0 : Int32)), .val (.int b2), .val (.int (0 : Int32)), .val (.int (1 : Int32)), .val (.int (0 : Int32)), .val (.int (1 : Int32)), .unset]) rfl k_) ?_
                show own_Go p e below _ T58 (mkF m 233 #[.val (.int ops), .val (.int c0), .val (.int c1), .val (.int flags), .val (.ref nb1), .val (.ref nb4), .val (.int (2 : Int32)), .val (.int (0 : Int32)), .val (.int (0 : Int32)), .val (.int b2), .val (.int (0 : Int32)), .val (.int (1 : Int32)), .val (.int (0 : Int32)), .val (.int (1 : Int32)), .unset] [])
                refine own_st (fun t_ k_ => XS.aload X58.here hx rfl (hb hby at_233) rfl rfl k_) ?_
                show own_Go p e below _ T58 (mkF m 235 #[.val (.int ops), .val (.int c0), .val (.int c1), .val (.int flags), .val (.ref nb1), .val (.ref nb4), .val (.int (2 : Int32)), .val (.int (0 : Int32)), .val (.int (0 : Int32)), .val (.int b2), .val (.int (0 : Int32)), .val (.int (1 : Int32)), .val (.int (0 : Int32)), .val (.int (1 : Int32)), .unset] [(.ref nb4)])
                refine own_st (fun t_ k_ => XS.iconst X58.here hx rfl (hb hby at_235) k_) ?_
                show own_Go p e below _ T58 (mkF m 236 #[.val (.int ops), .val (.int c0), .val (.int c1), .val (.int flags), .val (.ref nb1), .val (.ref nb4), .val (.int (2 : Int32)), .val (.int (0 : Int32)), .val (.int (0 : Int32)), .val (.int b2), .val (.int (0 : Int32)), .val (.int (1 : Int32)), .val (.int (0 : Int32)), .val (.int (1 : Int32)), .unset] [(.int (1 : Int32)), (.ref nb4)])
                obtain ⟨cq61, kq61, q61a, q61b, q61c⟩ := isOf hZ hh58 Eq54
                refine own_callV X58 hx (y := (⟨"com/example/kapu/kapu/service/Coverage$Part", "isCovered", "(Z)Z"⟩ : MethodName)) (z := (⟨"com/example/kapu/kapu/service/Coverage$Part", "isCovered", "(Z)Z"⟩ : MethodName)) hown (mvT hZ (hw _ (List.mem_of_getElem? (i := 41) rfl))) (mvT hZ (hw _ (List.mem_of_getElem? (i := 42) rfl))) (notFace_of_selects (args := #[]) (mvT hZ (hw _ (List.mem_of_getElem? (i := 44) rfl)))) (mvT hZ (hw _ (List.mem_of_getElem? (i := 44) rfl))) (mvT hZ (hw _ (List.mem_of_getElem? (i := 43) rfl))) (by decide) (backOf (W := 0) (rmV1 l Z a0 hw [] nb4 (0 : Int32) T54.heap n0 (Nat.le_trans Z0 K54.1) Fq54_2 rfl) hZ (hw _ (List.mem_of_getElem? (i := 45) rfl)) (hw _ (List.mem_of_getElem? (i := 3) rfl)) (by decide) (by decide)) q61a q61c (g := (mkF m 236 #[.val (.int ops), .val (.int c0), .val (.int c1), .val (.int flags), .val (.ref nb1), .val (.ref nb4), .val (.int (2 : Int32)), .val (.int (0 : Int32)), .val (.int (0 : Int32)), .val (.int b2), .val (.int (0 : Int32)), .val (.int (1 : Int32)), .val (.int (0 : Int32)), .val (.int (1 : Int32)), .unset] [(.int (1 : Int32)), (.ref nb4)])) rfl (by rw [hml]; rfl) (argsL := [(.int (1 : Int32))]) (rest := []) (lenOf pd_2 rfl) rfl (by show 2 * 0 + _ ≤ _; exact Nat.le_of_eq rfl) (hb hby at_236) rfl hh58 (by decide) (by decide) ?_
                rintro v60 T60 L60 X60 ⟨rfl, Nq60, hh60⟩
                have N60 := Fr.app N58 Nq60
                show own_Go p e below _ T60 (mkF m 239 #[.val (.int ops), .val (.int c0), .val (.int c1), .val (.int flags), .val (.ref nb1), .val (.ref nb4), .val (.int (2 : Int32)), .val (.int (0 : Int32)), .val (.int (0 : Int32)), .val (.int b2), .val (.int (0 : Int32)), .val (.int (1 : Int32)), .val (.int (0 : Int32)), .val (.int (1 : Int32)), .unset] [(.int (0 : Int32))])
                refine own_st (fun t_ k_ => XS.istore X60.here hx rfl (hb hby at_239) rfl (l' := #[.val (.int ops), .val (.int c0), .val (.int c1), .val (.int flags), .val (.ref nb1), .val (.ref nb4), .val (.int (2 : Int32)), .val (.int (0 : Int32)), .val (.int (0 : Int32)), .val (.int b2), .val (.int (0 : Int32)), .val (.int (1 : Int32)), .val (.int (0 : Int32)), .val (.int (1 : Int32)), .val (.int (0 : Int32))]) rfl k_) ?_
                show own_Go p e below _ T60 (mkF m 241 #[.val (.int ops), .val (.int c0), .val (.int c1), .val (.int flags), .val (.ref nb1), .val (.ref nb4), .val (.int (2 : Int32)), .val (.int (0 : Int32)), .val (.int (0 : Int32)), .val (.int b2), .val (.int (0 : Int32)), .val (.int (1 : Int32)), .val (.int (0 : Int32)), .val (.int (1 : Int32)), .val (.int (0 : Int32))] [])
                refine own_st (fun t_ k_ => XS.iload X60.here hx rfl (hb hby at_241) rfl k_) ?_
                show own_Go p e below _ T60 (mkF m 243 #[.val (.int ops), .val (.int c0), .val (.int c1), .val (.int flags), .val (.ref nb1), .val (.ref nb4), .val (.int (2 : Int32)), .val (.int (0 : Int32)), .val (.int (0 : Int32)), .val (.int b2), .val (.int (0 : Int32)), .val (.int (1 : Int32)), .val (.int (0 : Int32)), .val (.int (1 : Int32)), .val (.int (0 : Int32))] [(.int (0 : Int32))])
                refine own_st (fun t_ k_ => XS.iload X60.here hx rfl (hb hby at_243) rfl k_) ?_
                show own_Go p e below _ T60 (mkF m 245 #[.val (.int ops), .val (.int c0), .val (.int c1), .val (.int flags), .val (.ref nb1), .val (.ref nb4), .val (.int (2 : Int32)), .val (.int (0 : Int32)), .val (.int (0 : Int32)), .val (.int b2), .val (.int (0 : Int32)), .val (.int (1 : Int32)), .val (.int (0 : Int32)), .val (.int (1 : Int32)), .val (.int (0 : Int32))] [(.int (0 : Int32)), (.int (0 : Int32))])
                refine own_st (fun t_ k_ => XS.icmpNo X60.here hx rfl (hb hby at_245) rfl (by decide) k_) ?_
                show own_Go p e below _ T60 (mkF m 248 #[.val (.int ops), .val (.int c0), .val (.int c1), .val (.int flags), .val (.ref nb1), .val (.ref nb4), .val (.int (2 : Int32)), .val (.int (0 : Int32)), .val (.int (0 : Int32)), .val (.int b2), .val (.int (0 : Int32)), .val (.int (1 : Int32)), .val (.int (0 : Int32)), .val (.int (1 : Int32)), .val (.int (0 : Int32))] [])
                refine own_st (fun t_ k_ => XS.iload X60.here hx rfl (hb hby at_248) rfl k_) ?_
                show own_Go p e below _ T60 (mkF m 250 #[.val (.int ops), .val (.int c0), .val (.int c1), .val (.int flags), .val (.ref nb1), .val (.ref nb4), .val (.int (2 : Int32)), .val (.int (0 : Int32)), .val (.int (0 : Int32)), .val (.int b2), .val (.int (0 : Int32)), .val (.int (1 : Int32)), .val (.int (0 : Int32)), .val (.int (1 : Int32)), .val (.int (0 : Int32))] [(.int (1 : Int32))])
                refine own_st (fun t_ k_ => XS.iload X60.here hx rfl (hb hby at_250) rfl k_) ?_
                show own_Go p e below _ T60 (mkF m 252 #[.val (.int ops), .val (.int c0), .val (.int c1), .val (.int flags), .val (.ref nb1), .val (.ref nb4), .val (.int (2 : Int32)), .val (.int (0 : Int32)), .val (.int (0 : Int32)), .val (.int b2), .val (.int (0 : Int32)), .val (.int (1 : Int32)), .val (.int (0 : Int32)), .val (.int (1 : Int32)), .val (.int (0 : Int32))] [(.int (1 : Int32)), (.int (1 : Int32))])
                refine own_st (fun t_ k_ => XS.icmpNo X60.here hx rfl (hb hby at_252) rfl (by decide) k_) ?_
                show own_Go p e below _ T60 (mkF m 255 #[.val (.int ops), .val (.int c0), .val (.int c1), .val (.int flags), .val (.ref nb1), .val (.ref nb4), .val (.int (2 : Int32)), .val (.int (0 : Int32)), .val (.int (0 : Int32)), .val (.int b2), .val (.int (0 : Int32)), .val (.int (1 : Int32)), .val (.int (0 : Int32)), .val (.int (1 : Int32)), .val (.int (0 : Int32))] [])
                refine own_st (fun t_ k_ => XS.iload X60.here hx rfl (hb hby at_255) rfl k_) ?_
                show own_Go p e below _ T60 (mkF m 257 #[.val (.int ops), .val (.int c0), .val (.int c1), .val (.int flags), .val (.ref nb1), .val (.ref nb4), .val (.int (2 : Int32)), .val (.int (0 : Int32)), .val (.int (0 : Int32)), .val (.int b2), .val (.int (0 : Int32)), .val (.int (1 : Int32)), .val (.int (0 : Int32)), .val (.int (1 : Int32)), .val (.int (0 : Int32))] [(.int (0 : Int32))])
                refine own_st (fun t_ k_ => XS.iload X60.here hx rfl (hb hby at_257) rfl k_) ?_
                show own_Go p e below _ T60 (mkF m 259 #[.val (.int ops), .val (.int c0), .val (.int c1), .val (.int flags), .val (.ref nb1), .val (.ref nb4), .val (.int (2 : Int32)), .val (.int (0 : Int32)), .val (.int (0 : Int32)), .val (.int b2), .val (.int (0 : Int32)), .val (.int (1 : Int32)), .val (.int (0 : Int32)), .val (.int (1 : Int32)), .val (.int (0 : Int32))] [(.int (0 : Int32)), (.int (0 : Int32))])
                refine own_st (fun t_ k_ => XS.icmpNo X60.here hx rfl (hb hby at_259) rfl (by decide) k_) ?_
                show own_Go p e below _ T60 (mkF m 262 #[.val (.int ops), .val (.int c0), .val (.int c1), .val (.int flags), .val (.ref nb1), .val (.ref nb4), .val (.int (2 : Int32)), .val (.int (0 : Int32)), .val (.int (0 : Int32)), .val (.int b2), .val (.int (0 : Int32)), .val (.int (1 : Int32)), .val (.int (0 : Int32)), .val (.int (1 : Int32)), .val (.int (0 : Int32))] [])
                refine own_st (fun t_ k_ => XS.iconst X60.here hx rfl (hb hby at_262) k_) ?_
                show own_Go p e below _ T60 (mkF m 263 #[.val (.int ops), .val (.int c0), .val (.int c1), .val (.int flags), .val (.ref nb1), .val (.ref nb4), .val (.int (2 : Int32)), .val (.int (0 : Int32)), .val (.int (0 : Int32)), .val (.int b2), .val (.int (0 : Int32)), .val (.int (1 : Int32)), .val (.int (0 : Int32)), .val (.int (1 : Int32)), .val (.int (0 : Int32))] [(.int (1 : Int32))])
                refine own_st (fun t_ k_ => XS.goto X60.here hx rfl (pc0 := 263) (pc' := 267) rfl (hb hby at_263) (by decide) (by decide) k_) ?_
                show own_Go p e below _ T60 (mkF m 267 #[.val (.int ops), .val (.int c0), .val (.int c1), .val (.int flags), .val (.ref nb1), .val (.ref nb4), .val (.int (2 : Int32)), .val (.int (0 : Int32)), .val (.int (0 : Int32)), .val (.int b2), .val (.int (0 : Int32)), .val (.int (1 : Int32)), .val (.int (0 : Int32)), .val (.int (1 : Int32)), .val (.int (0 : Int32))] [(.int (1 : Int32))])
                refine own_retN X60 hx hlk (t := .boolean) Bd.returns (by simp) (hb hby at_267) ?_ (by decide) (by decide)
                show Q0 n0 _ T60.heap _
                rw [hh60]
                exact ⟨rfl, N60⟩
              · show own_Go p e below _ T52 (mkF m 121 #[.val (.int ops), .val (.int c0), .val (.int c1), .val (.int flags), .val (.ref nb1), .val (.ref nb4), .val (.int (2 : Int32)), .val (.int (0 : Int32)), .val (.int (1 : Int32)), .val (.int b2), .unset, .unset, .unset, .unset, .unset] [(.int (1 : Int32)), (.ref nb4)])
                obtain ⟨cq63, kq63, q63a, q63b, q63c⟩ := isOf hZ rfl Eq52
                refine own_callV X52 hx (y := (⟨"com/example/kapu/kapu/service/Coverage$Part", "cover", "(Z)V"⟩ : MethodName)) (z := (⟨"com/example/kapu/kapu/service/Coverage$Part", "cover", "(Z)V"⟩ : MethodName)) hown (mvT hZ (hw _ (List.mem_of_getElem? (i := 50) rfl))) (mvT hZ (hw _ (List.mem_of_getElem? (i := 51) rfl))) (notFace_of_selects (args := #[]) (mvT hZ (hw _ (List.mem_of_getElem? (i := 53) rfl)))) (mvT hZ (hw _ (List.mem_of_getElem? (i := 53) rfl))) (mvT hZ (hw _ (List.mem_of_getElem? (i := 52) rfl))) (by decide) (backOf (W := 0) (rmC1 l Z a0 hw [] nb4 nb5 bz (0 : Int32) (1 : Int32) T52.heap n0 (Nat.le_trans Z0 K52.1) g_nb4 Eq52 Fq52_0 Fq52_1 Fq52_2 Fq52_3) hZ (hw _ (List.mem_of_getElem? (i := 54) rfl)) (hw _ (List.mem_of_getElem? (i := 3) rfl)) (by decide) (by decide)) q63a q63c (g := (mkF m 121 #[.val (.int ops), .val (.int c0), .val (.int c1), .val (.int flags), .val (.ref nb1), .val (.ref nb4), .val (.int (2 : Int32)), .val (.int (0 : Int32)), .val (.int (1 : Int32)), .val (.int b2), .unset, .unset, .unset, .unset, .unset] [(.int (1 : Int32)), (.ref nb4)])) rfl (by rw [hml]; rfl) (argsL := [(.int (1 : Int32))]) (rest := []) (lenOf pd_3 rfl) rfl (by show 2 * 0 + _ ≤ _; exact Nat.le_of_eq rfl) (hb hby at_121) rfl rfl (by decide) (by decide) ?_
                rintro v62 T62 L62 X62 ⟨rfl, Nq62, Kq62, Eq62, Fq62_0, Fq62_1, Fq62_2, Fq62_3⟩
                have N62 := Fr.app N52 Nq62
                have K62 : Keep h0 T62.heap [] := K52.trans Kq62 (allS (Or.inr sz_nb4) all0)
                show own_Go p e below _ T62 (mkF m 124 #[.val (.int ops), .val (.int c0), .val (.int c1), .val (.int flags), .val (.ref nb1), .val (.ref nb4), .val (.int (2 : Int32)), .val (.int (0 : Int32)), .val (.int (1 : Int32)), .val (.int b2), .unset, .unset, .unset, .unset, .unset] [])
                refine own_st (fun t_ k_ => XS.iload X62.here hx rfl (hb hby at_124) rfl k_) ?_
                show own_Go p e below _ T62 (mkF m 126 #[.val (.int ops), .val (.int c0), .val (.int c1), .val (.int flags), .val (.ref nb1), .val (.ref nb4), .val (.int (2 : Int32)), .val (.int (0 : Int32)), .val (.int (1 : Int32)), .val (.int b2), .unset, .unset, .unset, .unset, .unset] [(.int (2 : Int32))])
                refine own_st (fun t_ k_ => XS.iconst X62.here hx rfl (hb hby at_126) k_) ?_
                show own_Go p e below _ T62 (mkF m 127 #[.val (.int ops), .val (.int c0), .val (.int c1), .val (.int flags), .val (.ref nb1), .val (.ref nb4), .val (.int (2 : Int32)), .val (.int (0 : Int32)), .val (.int (1 : Int32)), .val (.int b2), .unset, .unset, .unset, .unset, .unset] [(.int (3 : Int32)), (.int (2 : Int32))])
                refine own_st (fun t_ k_ => XS.icmpYes X62.here hx rfl (pc0 := 127) (pc' := 137) rfl (hb hby at_127) rfl (by decide) (by decide) (by decide) k_) ?_
                show own_Go p e below _ T62 (mkF m 137 #[.val (.int ops), .val (.int c0), .val (.int c1), .val (.int flags), .val (.ref nb1), .val (.ref nb4), .val (.int (2 : Int32)), .val (.int (0 : Int32)), .val (.int (1 : Int32)), .val (.int b2), .unset, .unset, .unset, .unset, .unset] [])
                refine own_st (fun t_ k_ => XS.iload X62.here hx rfl (hb hby at_137) rfl k_) ?_
                show own_Go p e below _ T62 (mkF m 139 #[.val (.int ops), .val (.int c0), .val (.int c1), .val (.int flags), .val (.ref nb1), .val (.ref nb4), .val (.int (2 : Int32)), .val (.int (0 : Int32)), .val (.int (1 : Int32)), .val (.int b2), .unset, .unset, .unset, .unset, .unset] [(.int (2 : Int32))])
                refine own_st (fun t_ k_ => XS.iconst X62.here hx rfl (hb hby at_139) k_) ?_
                show own_Go p e below _ T62 (mkF m 140 #[.val (.int ops), .val (.int c0), .val (.int c1), .val (.int flags), .val (.ref nb1), .val (.ref nb4), .val (.int (2 : Int32)), .val (.int (0 : Int32)), .val (.int (1 : Int32)), .val (.int b2), .unset, .unset, .unset, .unset, .unset] [(.int (1 : Int32)), (.int (2 : Int32))])
                refine own_st (fun t_ k_ => XS.icmpNo X62.here hx rfl (hb hby at_140) rfl (by decide) k_) ?_
                show own_Go p e below _ T62 (mkF m 143 #[.val (.int ops), .val (.int c0), .val (.int c1), .val (.int flags), .val (.ref nb1), .val (.ref nb4), .val (.int (2 : Int32)), .val (.int (0 : Int32)), .val (.int (1 : Int32)), .val (.int b2), .unset, .unset, .unset, .unset, .unset] [])
                refine own_st (fun t_ k_ => XS.iload X62.here hx rfl (hb hby at_143) rfl k_) ?_
                show own_Go p e below _ T62 (mkF m 145 #[.val (.int ops), .val (.int c0), .val (.int c1), .val (.int flags), .val (.ref nb1), .val (.ref nb4), .val (.int (2 : Int32)), .val (.int (0 : Int32)), .val (.int (1 : Int32)), .val (.int b2), .unset, .unset, .unset, .unset, .unset] [(.int (0 : Int32))])
                refine own_st (fun t_ k_ => XS.ifNo X62.here hx rfl (hb hby at_145) rfl (by decide) k_) ?_
                show own_Go p e below _ T62 (mkF m 148 #[.val (.int ops), .val (.int c0), .val (.int c1), .val (.int flags), .val (.ref nb1), .val (.ref nb4), .val (.int (2 : Int32)), .val (.int (0 : Int32)), .val (.int (1 : Int32)), .val (.int b2), .unset, .unset, .unset, .unset, .unset] [])
                refine own_st (fun t_ k_ => XS.iload X62.here hx rfl (hb hby at_148) rfl k_) ?_
                show own_Go p e below _ T62 (mkF m 150 #[.val (.int ops), .val (.int c0), .val (.int c1), .val (.int flags), .val (.ref nb1), .val (.ref nb4), .val (.int (2 : Int32)), .val (.int (0 : Int32)), .val (.int (1 : Int32)), .val (.int b2), .unset, .unset, .unset, .unset, .unset] [(.int (2 : Int32))])
                refine own_st (fun t_ k_ => XS.iconst X62.here hx rfl (hb hby at_150) k_) ?_
                show own_Go p e below _ T62 (mkF m 151 #[.val (.int ops), .val (.int c0), .val (.int c1), .val (.int flags), .val (.ref nb1), .val (.ref nb4), .val (.int (2 : Int32)), .val (.int (0 : Int32)), .val (.int (1 : Int32)), .val (.int b2), .unset, .unset, .unset, .unset, .unset] [(.int (2 : Int32)), (.int (2 : Int32))])
                refine own_st (fun t_ k_ => XS.icmpNo X62.here hx rfl (hb hby at_151) rfl (by decide) k_) ?_
                show own_Go p e below _ T62 (mkF m 154 #[.val (.int ops), .val (.int c0), .val (.int c1), .val (.int flags), .val (.ref nb1), .val (.ref nb4), .val (.int (2 : Int32)), .val (.int (0 : Int32)), .val (.int (1 : Int32)), .val (.int b2), .unset, .unset, .unset, .unset, .unset] [])
                refine own_st (fun t_ k_ => XS.iload X62.here hx rfl (hb hby at_154) rfl k_) ?_
                show own_Go p e below _ T62 (mkF m 156 #[.val (.int ops), .val (.int c0), .val (.int c1), .val (.int flags), .val (.ref nb1), .val (.ref nb4), .val (.int (2 : Int32)), .val (.int (0 : Int32)), .val (.int (1 : Int32)), .val (.int b2), .unset, .unset, .unset, .unset, .unset] [(.int (1 : Int32))])
                refine own_st (fun t_ k_ => XS.ifYes X62.here hx rfl (pc0 := 156) (pc' := 170) rfl (hb hby at_156) rfl (by decide) (by decide) (by decide) k_) ?_
                show own_Go p e below _ T62 (mkF m 170 #[.val (.int ops), .val (.int c0), .val (.int c1), .val (.int flags), .val (.ref nb1), .val (.ref nb4), .val (.int (2 : Int32)), .val (.int (0 : Int32)), .val (.int (1 : Int32)), .val (.int b2), .unset, .unset, .unset, .unset, .unset] [])
                refine own_st (fun t_ k_ => XS.iconst X62.here hx rfl (hb hby at_170) k_) ?_
                show own_Go p e below _ T62 (mkF m 171 #[.val (.int ops), .val (.int c0), .val (.int c1), .val (.int flags), .val (.ref nb1), .val (.ref nb4), .val (.int (2 : Int32)), .val (.int (0 : Int32)), .val (.int (1 : Int32)), .val (.int b2), .unset, .unset, .unset, .unset, .unset] [(.int (1 : Int32))])
                refine own_st (fun t_ k_ => XS.goto X62.here hx rfl (pc0 := 171) (pc' := 175) rfl (hb hby at_171) (by decide) (by decide) k_) ?_
                show own_Go p e below _ T62 (mkF m 175 #[.val (.int ops), .val (.int c0), .val (.int c1), .val (.int flags), .val (.ref nb1), .val (.ref nb4), .val (.int (2 : Int32)), .val (.int (0 : Int32)), .val (.int (1 : Int32)), .val (.int b2), .unset, .unset, .unset, .unset, .unset] [(.int (1 : Int32))])
                refine own_st (fun t_ k_ => XS.istore X62.here hx rfl (hb hby at_175) rfl (l' := #[.val (.int ops), .val (.int c0), .val (.int c1), .val (.int flags), .val (.ref nb1), .val (.ref nb4), .val (.int (2 : Int32)), .val (.int (0 : Int32)), .val (.int (1 : Int32)), .val (.int b2), .val (.int (1 : Int32)), .unset, .unset, .unset, .unset]) rfl k_) ?_
                show own_Go p e below _ T62 (mkF m 177 #[.val (.int ops), .val (.int c0), .val (.int c1), .val (.int flags), .val (.ref nb1), .val (.ref nb4), .val (.int (2 : Int32)), .val (.int (0 : Int32)), .val (.int (1 : Int32)), .val (.int b2), .val (.int (1 : Int32)), .unset, .unset, .unset, .unset] [])
                refine own_st (fun t_ k_ => XS.iload X62.here hx rfl (hb hby at_177) rfl k_) ?_
                show own_Go p e below _ T62 (mkF m 179 #[.val (.int ops), .val (.int c0), .val (.int c1), .val (.int flags), .val (.ref nb1), .val (.ref nb4), .val (.int (2 : Int32)), .val (.int (0 : Int32)), .val (.int (1 : Int32)), .val (.int b2), .val (.int (1 : Int32)), .unset, .unset, .unset, .unset] [(.int (2 : Int32))])
                refine own_st (fun t_ k_ => XS.iconst X62.here hx rfl (hb hby at_179) k_) ?_
                show own_Go p e below _ T62 (mkF m 180 #[.val (.int ops), .val (.int c0), .val (.int c1), .val (.int flags), .val (.ref nb1), .val (.ref nb4), .val (.int (2 : Int32)), .val (.int (0 : Int32)), .val (.int (1 : Int32)), .val (.int b2), .val (.int (1 : Int32)), .unset, .unset, .unset, .unset] [(.int (1 : Int32)), (.int (2 : Int32))])
                refine own_st (fun t_ k_ => XS.icmpNo X62.here hx rfl (hb hby at_180) rfl (by decide) k_) ?_
                show own_Go p e below _ T62 (mkF m 183 #[.val (.int ops), .val (.int c0), .val (.int c1), .val (.int flags), .val (.ref nb1), .val (.ref nb4), .val (.int (2 : Int32)), .val (.int (0 : Int32)), .val (.int (1 : Int32)), .val (.int b2), .val (.int (1 : Int32)), .unset, .unset, .unset, .unset] [])
                refine own_st (fun t_ k_ => XS.iload X62.here hx rfl (hb hby at_183) rfl k_) ?_
                show own_Go p e below _ T62 (mkF m 185 #[.val (.int ops), .val (.int c0), .val (.int c1), .val (.int flags), .val (.ref nb1), .val (.ref nb4), .val (.int (2 : Int32)), .val (.int (0 : Int32)), .val (.int (1 : Int32)), .val (.int b2), .val (.int (1 : Int32)), .unset, .unset, .unset, .unset] [(.int (0 : Int32))])
                refine own_st (fun t_ k_ => XS.ifYes X62.here hx rfl (pc0 := 185) (pc' := 210) rfl (hb hby at_185) rfl (by decide) (by decide) (by decide) k_) ?_
                show own_Go p e below _ T62 (mkF m 210 #[.val (.int ops), .val (.int c0), .val (.int c1), .val (.int flags), .val (.ref nb1), .val (.ref nb4), .val (.int (2 : Int32)), .val (.int (0 : Int32)), .val (.int (1 : Int32)), .val (.int b2), .val (.int (1 : Int32)), .unset, .unset, .unset, .unset] [])
                refine own_st (fun t_ k_ => XS.iconst X62.here hx rfl (hb hby at_210) k_) ?_
                show own_Go p e below _ T62 (mkF m 211 #[.val (.int ops), .val (.int c0), .val (.int c1), .val (.int flags), .val (.ref nb1), .val (.ref nb4), .val (.int (2 : Int32)), .val (.int (0 : Int32)), .val (.int (1 : Int32)), .val (.int b2), .val (.int (1 : Int32)), .unset, .unset, .unset, .unset] [(.int (1 : Int32))])
                refine own_st (fun t_ k_ => XS.goto X62.here hx rfl (pc0 := 211) (pc' := 215) rfl (hb hby at_211) (by decide) (by decide) k_) ?_
                show own_Go p e below _ T62 (mkF m 215 #[.val (.int ops), .val (.int c0), .val (.int c1), .val (.int flags), .val (.ref nb1), .val (.ref nb4), .val (.int (2 : Int32)), .val (.int (0 : Int32)), .val (.int (1 : Int32)), .val (.int b2), .val (.int (1 : Int32)), .unset, .unset, .unset, .unset] [(.int (1 : Int32))])
                refine own_st (fun t_ k_ => XS.istore X62.here hx rfl (hb hby at_215) rfl (l' := #[.val (.int ops), .val (.int c0), .val (.int c1), .val (.int flags), .val (.ref nb1), .val (.ref nb4), .val (.int (2 : Int32)), .val (.int (0 : Int32)), .val (.int (1 : Int32)), .val (.int b2), .val (.int (1 : Int32)), .val (.int (1 : Int32)), .unset, .unset, .unset]) rfl k_) ?_
                show own_Go p e below _ T62 (mkF m 217 #[.val (.int ops), .val (.int c0), .val (.int c1), .val (.int flags), .val (.ref nb1), .val (.ref nb4), .val (.int (2 : Int32)), .val (.int (0 : Int32)), .val (.int (1 : Int32)), .val (.int b2), .val (.int (1 : Int32)), .val (.int (1 : Int32)), .unset, .unset, .unset] [])
                refine own_st (fun t_ k_ => XS.aload X62.here hx rfl (hb hby at_217) rfl rfl k_) ?_
                show own_Go p e below _ T62 (mkF m 219 #[.val (.int ops), .val (.int c0), .val (.int c1), .val (.int flags), .val (.ref nb1), .val (.ref nb4), .val (.int (2 : Int32)), .val (.int (0 : Int32)), .val (.int (1 : Int32)), .val (.int b2), .val (.int (1 : Int32)), .val (.int (1 : Int32)), .unset, .unset, .unset] [(.ref nb4)])
                refine own_st (fun t_ k_ => XS.iconst X62.here hx rfl (hb hby at_219) k_) ?_
                show own_Go p e below _ T62 (mkF m 220 #[.val (.int ops), .val (.int c0), .val (.int c1), .val (.int flags), .val (.ref nb1), .val (.ref nb4), .val (.int (2 : Int32)), .val (.int (0 : Int32)), .val (.int (1 : Int32)), .val (.int b2), .val (.int (1 : Int32)), .val (.int (1 : Int32)), .unset, .unset, .unset] [(.int (1 : Int32)), (.ref nb4)])
                obtain ⟨cq65, kq65, q65a, q65b, q65c⟩ := isOf hZ rfl Eq62
                refine own_callV X62 hx (y := (⟨"com/example/kapu/kapu/service/Coverage$Part", "isCovered", "(Z)Z"⟩ : MethodName)) (z := (⟨"com/example/kapu/kapu/service/Coverage$Part", "isCovered", "(Z)Z"⟩ : MethodName)) hown (mvT hZ (hw _ (List.mem_of_getElem? (i := 41) rfl))) (mvT hZ (hw _ (List.mem_of_getElem? (i := 42) rfl))) (notFace_of_selects (args := #[]) (mvT hZ (hw _ (List.mem_of_getElem? (i := 44) rfl)))) (mvT hZ (hw _ (List.mem_of_getElem? (i := 44) rfl))) (mvT hZ (hw _ (List.mem_of_getElem? (i := 43) rfl))) (by decide) (backOf (W := 0) (rmV1 l Z a0 hw [] nb4 (1 : Int32) T62.heap n0 (Nat.le_trans Z0 K62.1) Fq62_2 rfl) hZ (hw _ (List.mem_of_getElem? (i := 45) rfl)) (hw _ (List.mem_of_getElem? (i := 3) rfl)) (by decide) (by decide)) q65a q65c (g := (mkF m 220 #[.val (.int ops), .val (.int c0), .val (.int c1), .val (.int flags), .val (.ref nb1), .val (.ref nb4), .val (.int (2 : Int32)), .val (.int (0 : Int32)), .val (.int (1 : Int32)), .val (.int b2), .val (.int (1 : Int32)), .val (.int (1 : Int32)), .unset, .unset, .unset] [(.int (1 : Int32)), (.ref nb4)])) rfl (by rw [hml]; rfl) (argsL := [(.int (1 : Int32))]) (rest := []) (lenOf pd_2 rfl) rfl (by show 2 * 0 + _ ≤ _; exact Nat.le_of_eq rfl) (hb hby at_220) rfl rfl (by decide) (by decide) ?_
                rintro v64 T64 L64 X64 ⟨rfl, Nq64, hh64⟩
                have N64 := Fr.app N62 Nq64
                show own_Go p e below _ T64 (mkF m 223 #[.val (.int ops), .val (.int c0), .val (.int c1), .val (.int flags), .val (.ref nb1), .val (.ref nb4), .val (.int (2 : Int32)), .val (.int (0 : Int32)), .val (.int (1 : Int32)), .val (.int b2), .val (.int (1 : Int32)), .val (.int (1 : Int32)), .unset, .unset, .unset] [(.int (1 : Int32))])
                refine own_st (fun t_ k_ => XS.istore X64.here hx rfl (hb hby at_223) rfl (l' := #[.val (.int ops), .val (.int c0), .val (.int c1), .val (.int flags), .val (.ref nb1), .val (.ref nb4), .val (.int (2 : Int32)), .val (.int (0 : Int32)), .val (.int (1 : Int32)), .val (.int b2), .val (.int (1 : Int32)), .val (.int (1 : Int32)), .val (.int (1 : Int32)), .unset, .unset]) rfl k_) ?_
                show own_Go p e below _ T64 (mkF m 225 #[.val (.int ops), .val (.int c0), .val (.int c1), .val (.int flags), .val (.ref nb1), .val (.ref nb4), .val (.int (2 : Int32)), .val (.int (0 : Int32)), .val (.int (1 : Int32)), .val (.int b2), .val (.int (1 : Int32)), .val (.int (1 : Int32)), .val (.int (1 : Int32)), .unset, .unset] [])
                refine own_st (fun t_ k_ => XS.aload X64.here hx rfl (hb hby at_225) rfl rfl k_) ?_
                show own_Go p e below _ T64 (mkF m 227 #[.val (.int ops), .val (.int c0), .val (.int c1), .val (.int flags), .val (.ref nb1), .val (.ref nb4), .val (.int (2 : Int32)), .val (.int (0 : Int32)), .val (.int (1 : Int32)), .val (.int b2), .val (.int (1 : Int32)), .val (.int (1 : Int32)), .val (.int (1 : Int32)), .unset, .unset] [(.ref nb4)])
                refine own_st (fun t_ k_ => XS.iconst X64.here hx rfl (hb hby at_227) k_) ?_
                show own_Go p e below _ T64 (mkF m 228 #[.val (.int ops), .val (.int c0), .val (.int c1), .val (.int flags), .val (.ref nb1), .val (.ref nb4), .val (.int (2 : Int32)), .val (.int (0 : Int32)), .val (.int (1 : Int32)), .val (.int b2), .val (.int (1 : Int32)), .val (.int (1 : Int32)), .val (.int (1 : Int32)), .unset, .unset] [(.int (0 : Int32)), (.ref nb4)])
                obtain ⟨cq67, kq67, q67a, q67b, q67c⟩ := isOf hZ hh64 Eq62
                refine own_callV X64 hx (y := (⟨"com/example/kapu/kapu/service/Coverage$Part", "isCovered", "(Z)Z"⟩ : MethodName)) (z := (⟨"com/example/kapu/kapu/service/Coverage$Part", "isCovered", "(Z)Z"⟩ : MethodName)) hown (mvT hZ (hw _ (List.mem_of_getElem? (i := 41) rfl))) (mvT hZ (hw _ (List.mem_of_getElem? (i := 42) rfl))) (notFace_of_selects (args := #[]) (mvT hZ (hw _ (List.mem_of_getElem? (i := 44) rfl)))) (mvT hZ (hw _ (List.mem_of_getElem? (i := 44) rfl))) (mvT hZ (hw _ (List.mem_of_getElem? (i := 43) rfl))) (by decide) (backOf (W := 0) (rmV0 l Z a0 hw [] nb4 (1 : Int32) T62.heap n0 (Nat.le_trans Z0 K62.1) Fq62_3 rfl) hZ (hw _ (List.mem_of_getElem? (i := 45) rfl)) (hw _ (List.mem_of_getElem? (i := 3) rfl)) (by decide) (by decide)) q67a q67c (g := (mkF m 228 #[.val (.int ops), .val (.int c0), .val (.int c1), .val (.int flags), .val (.ref nb1), .val (.ref nb4), .val (.int (2 : Int32)), .val (.int (0 : Int32)), .val (.int (1 : Int32)), .val (.int b2), .val (.int (1 : Int32)), .val (.int (1 : Int32)), .val (.int (1 : Int32)), .unset, .unset] [(.int (0 : Int32)), (.ref nb4)])) rfl (by rw [hml]; rfl) (argsL := [(.int (0 : Int32))]) (rest := []) (lenOf pd_2 rfl) rfl (by show 2 * 0 + _ ≤ _; exact Nat.le_of_eq rfl) (hb hby at_228) rfl hh64 (by decide) (by decide) ?_
                rintro v66 T66 L66 X66 ⟨rfl, Nq66, hh66⟩
                have N66 := Fr.app N64 Nq66
                show own_Go p e below _ T66 (mkF m 231 #[.val (.int ops), .val (.int c0), .val (.int c1), .val (.int flags), .val (.ref nb1), .val (.ref nb4), .val (.int (2 : Int32)), .val (.int (0 : Int32)), .val (.int (1 : Int32)), .val (.int b2), .val (.int (1 : Int32)), .val (.int (1 : Int32)), .val (.int (1 : Int32)), .unset, .unset] [(.int (1 : Int32))])
                refine own_st (fun t_ k_ => XS.istore X66.here hx rfl (hb hby at_231) rfl (l' := #[.val (.int ops), .val (.int c0), .val (.int c1), .val (.int flags), .val (.ref nb1), .val (.ref nb4), .val (.int (2 : Int32)), .val (.int (0 : Int32)), .val (.int (1 : Int32)), .val (.int b2), .val (.int (1 : Int32)), .val (.int (1 : Int32)), .val (.int (1 : Int32)), .val (.int (1 : Int32)), .unset]) rfl k_) ?_
                show own_Go p e below _ T66 (mkF m 233 #[.val (.int ops), .val (.int c0), .val (.int c1), .val (.int flags), .val (.ref nb1), .val (.ref nb4), .val (.int (2 : Int32)), .val (.int (0 : Int32)), .val (.int (1 : Int32)), .val (.int b2), .val (.int (1 : Int32)), .val (.int (1 : Int32)), .val (.int (1 : Int32)), .val (.int (1 : Int32)), .unset] [])
                refine own_st (fun t_ k_ => XS.aload X66.here hx rfl (hb hby at_233) rfl rfl k_) ?_
                show own_Go p e below _ T66 (mkF m 235 #[.val (.int ops), .val (.int c0), .val (.int c1), .val (.int flags), .val (.ref nb1), .val (.ref nb4), .val (.int (2 : Int32)), .val (.int (0 : Int32)), .val (.int (1 : Int32)), .val (.int b2), .val (.int (1 : Int32)), .val (.int (1 : Int32)), .val (.int (1 : Int32)), .val (.int (1 : Int32)), .unset] [(.ref nb4)])
                refine own_st (fun t_ k_ => XS.iconst X66.here hx rfl (hb hby at_235) k_) ?_
                show own_Go p e below _ T66 (mkF m 236 #[.val (.int ops), .val (.int c0), .val (.int c1), .val (.int flags), .val (.ref nb1), .val (.ref nb4), .val (.int (2 : Int32)), .val (.int (0 : Int32)), .val (.int (1 : Int32)), .val (.int b2), .val (.int (1 : Int32)), .val (.int (1 : Int32)), .val (.int (1 : Int32)), .val (.int (1 : Int32)), .unset] [(.int (1 : Int32)), (.ref nb4)])
                obtain ⟨cq69, kq69, q69a, q69b, q69c⟩ := isOf hZ hh66 Eq62
                refine own_callV X66 hx (y := (⟨"com/example/kapu/kapu/service/Coverage$Part", "isCovered", "(Z)Z"⟩ : MethodName)) (z := (⟨"com/example/kapu/kapu/service/Coverage$Part", "isCovered", "(Z)Z"⟩ : MethodName)) hown (mvT hZ (hw _ (List.mem_of_getElem? (i := 41) rfl))) (mvT hZ (hw _ (List.mem_of_getElem? (i := 42) rfl))) (notFace_of_selects (args := #[]) (mvT hZ (hw _ (List.mem_of_getElem? (i := 44) rfl)))) (mvT hZ (hw _ (List.mem_of_getElem? (i := 44) rfl))) (mvT hZ (hw _ (List.mem_of_getElem? (i := 43) rfl))) (by decide) (backOf (W := 0) (rmV1 l Z a0 hw [] nb4 (1 : Int32) T62.heap n0 (Nat.le_trans Z0 K62.1) Fq62_2 rfl) hZ (hw _ (List.mem_of_getElem? (i := 45) rfl)) (hw _ (List.mem_of_getElem? (i := 3) rfl)) (by decide) (by decide)) q69a q69c (g := (mkF m 236 #[.val (.int ops), .val (.int c0), .val (.int c1), .val (.int flags), .val (.ref nb1), .val (.ref nb4), .val (.int (2 : Int32)), .val (.int (0 : Int32)), .val (.int (1 : Int32)), .val (.int b2), .val (.int (1 : Int32)), .val (.int (1 : Int32)), .val (.int (1 : Int32)), .val (.int (1 : Int32)), .unset] [(.int (1 : Int32)), (.ref nb4)])) rfl (by rw [hml]; rfl) (argsL := [(.int (1 : Int32))]) (rest := []) (lenOf pd_2 rfl) rfl (by show 2 * 0 + _ ≤ _; exact Nat.le_of_eq rfl) (hb hby at_236) rfl hh66 (by decide) (by decide) ?_
                rintro v68 T68 L68 X68 ⟨rfl, Nq68, hh68⟩
                have N68 := Fr.app N66 Nq68
                show own_Go p e below _ T68 (mkF m 239 #[.val (.int ops), .val (.int c0), .val (.int c1), .val (.int flags), .val (.ref nb1), .val (.ref nb4), .val (.int (2 : Int32)), .val (.int (0 : Int32)), .val (.int (1 : Int32)), .val (.int b2), .val (.int (1 : Int32)), .val (.int (1 : Int32)), .val (.int (1 : Int32)), .val (.int (1 : Int32)), .unset] [(.int (1 : Int32))])
                refine own_st (fun t_ k_ => XS.istore X68.here hx rfl (hb hby at_239) rfl (l' := #[.val (.int ops), .val (.int c0), .val (.int c1), .val (.int flags), .val (.ref nb1), .val (.ref nb4), .val (.int (2 : Int32)), .val (.int (0 : Int32)), .val (.int (1 : Int32)), .val (.int b2), .val (.int (1 : Int32)), .val (.int (1 : Int32)), .val (.int (1 : Int32)), .val (.int (1 : Int32)), .val (.int (1 : Int32))]) rfl k_) ?_
                show own_Go p e below _ T68 (mkF m 241 #[.val (.int ops), .val (.int c0), .val (.int c1), .val (.int flags), .val (.ref nb1), .val (.ref nb4), .val (.int (2 : Int32)), .val (.int (0 : Int32)), .val (.int (1 : Int32)), .val (.int b2), .val (.int (1 : Int32)), .val (.int (1 : Int32)), .val (.int (1 : Int32)), .val (.int (1 : Int32)), .val (.int (1 : Int32))] [])
                refine own_st (fun t_ k_ => XS.iload X68.here hx rfl (hb hby at_241) rfl k_) ?_
                show own_Go p e below _ T68 (mkF m 243 #[.val (.int ops), .val (.int c0), .val (.int c1), .val (.int flags), .val (.ref nb1), .val (.ref nb4), .val (.int (2 : Int32)), .val (.int (0 : Int32)), .val (.int (1 : Int32)), .val (.int b2), .val (.int (1 : Int32)), .val (.int (1 : Int32)), .val (.int (1 : Int32)), .val (.int (1 : Int32)), .val (.int (1 : Int32))] [(.int (1 : Int32))])
                refine own_st (fun t_ k_ => XS.iload X68.here hx rfl (hb hby at_243) rfl k_) ?_
                show own_Go p e below _ T68 (mkF m 245 #[.val (.int ops), .val (.int c0), .val (.int c1), .val (.int flags), .val (.ref nb1), .val (.ref nb4), .val (.int (2 : Int32)), .val (.int (0 : Int32)), .val (.int (1 : Int32)), .val (.int b2), .val (.int (1 : Int32)), .val (.int (1 : Int32)), .val (.int (1 : Int32)), .val (.int (1 : Int32)), .val (.int (1 : Int32))] [(.int (1 : Int32)), (.int (1 : Int32))])
                refine own_st (fun t_ k_ => XS.icmpNo X68.here hx rfl (hb hby at_245) rfl (by decide) k_) ?_
                show own_Go p e below _ T68 (mkF m 248 #[.val (.int ops), .val (.int c0), .val (.int c1), .val (.int flags), .val (.ref nb1), .val (.ref nb4), .val (.int (2 : Int32)), .val (.int (0 : Int32)), .val (.int (1 : Int32)), .val (.int b2), .val (.int (1 : Int32)), .val (.int (1 : Int32)), .val (.int (1 : Int32)), .val (.int (1 : Int32)), .val (.int (1 : Int32))] [])
                refine own_st (fun t_ k_ => XS.iload X68.here hx rfl (hb hby at_248) rfl k_) ?_
                show own_Go p e below _ T68 (mkF m 250 #[.val (.int ops), .val (.int c0), .val (.int c1), .val (.int flags), .val (.ref nb1), .val (.ref nb4), .val (.int (2 : Int32)), .val (.int (0 : Int32)), .val (.int (1 : Int32)), .val (.int b2), .val (.int (1 : Int32)), .val (.int (1 : Int32)), .val (.int (1 : Int32)), .val (.int (1 : Int32)), .val (.int (1 : Int32))] [(.int (1 : Int32))])
                refine own_st (fun t_ k_ => XS.iload X68.here hx rfl (hb hby at_250) rfl k_) ?_
                show own_Go p e below _ T68 (mkF m 252 #[.val (.int ops), .val (.int c0), .val (.int c1), .val (.int flags), .val (.ref nb1), .val (.ref nb4), .val (.int (2 : Int32)), .val (.int (0 : Int32)), .val (.int (1 : Int32)), .val (.int b2), .val (.int (1 : Int32)), .val (.int (1 : Int32)), .val (.int (1 : Int32)), .val (.int (1 : Int32)), .val (.int (1 : Int32))] [(.int (1 : Int32)), (.int (1 : Int32))])
                refine own_st (fun t_ k_ => XS.icmpNo X68.here hx rfl (hb hby at_252) rfl (by decide) k_) ?_
                show own_Go p e below _ T68 (mkF m 255 #[.val (.int ops), .val (.int c0), .val (.int c1), .val (.int flags), .val (.ref nb1), .val (.ref nb4), .val (.int (2 : Int32)), .val (.int (0 : Int32)), .val (.int (1 : Int32)), .val (.int b2), .val (.int (1 : Int32)), .val (.int (1 : Int32)), .val (.int (1 : Int32)), .val (.int (1 : Int32)), .val (.int (1 : Int32))] [])
                refine own_st (fun t_ k_ => XS.iload X68.here hx rfl (hb hby at_255) rfl k_) ?_
                show own_Go p e below _ T68 (mkF m 257 #[.val (.int ops), .val (.int c0), .val (.int c1), .val (.int flags), .val (.ref nb1), .val (.ref nb4), .val (.int (2 : Int32)), .val (.int (0 : Int32)), .val (.int (1 : Int32)), .val (.int b2), .val (.int (1 : Int32)), .val (.int (1 : Int32)), .val (.int (1 : Int32)), .val (.int (1 : Int32)), .val (.int (1 : Int32))] [(.int (1 : Int32))])
                refine own_st (fun t_ k_ => XS.iload X68.here hx rfl (hb hby at_257) rfl k_) ?_
                show own_Go p e below _ T68 (mkF m 259 #[.val (.int ops), .val (.int c0), .val (.int c1), .val (.int flags), .val (.ref nb1), .val (.ref nb4), .val (.int (2 : Int32)), .val (.int (0 : Int32)), .val (.int (1 : Int32)), .val (.int b2), .val (.int (1 : Int32)), .val (.int (1 : Int32)), .val (.int (1 : Int32)), .val (.int (1 : Int32)), .val (.int (1 : Int32))] [(.int (1 : Int32)), (.int (1 : Int32))])
                refine own_st (fun t_ k_ => XS.icmpNo X68.here hx rfl (hb hby at_259) rfl (by decide) k_) ?_
                show own_Go p e below _ T68 (mkF m 262 #[.val (.int ops), .val (.int c0), .val (.int c1), .val (.int flags), .val (.ref nb1), .val (.ref nb4), .val (.int (2 : Int32)), .val (.int (0 : Int32)), .val (.int (1 : Int32)), .val (.int b2), .val (.int (1 : Int32)), .val (.int (1 : Int32)), .val (.int (1 : Int32)), .val (.int (1 : Int32)), .val (.int (1 : Int32))] [])
                refine own_st (fun t_ k_ => XS.iconst X68.here hx rfl (hb hby at_262) k_) ?_
                show own_Go p e below _ T68 (mkF m 263 #[.val (.int ops), .val (.int c0), .val (.int c1), .val (.int flags), .val (.ref nb1), .val (.ref nb4), .val (.int (2 : Int32)), .val (.int (0 : Int32)), .val (.int (1 : Int32)), .val (.int b2), .val (.int (1 : Int32)), .val (.int (1 : Int32)), .val (.int (1 : Int32)), .val (.int (1 : Int32)), .val (.int (1 : Int32))] [(.int (1 : Int32))])
                refine own_st (fun t_ k_ => XS.goto X68.here hx rfl (pc0 := 263) (pc' := 267) rfl (hb hby at_263) (by decide) (by decide) k_) ?_
                show own_Go p e below _ T68 (mkF m 267 #[.val (.int ops), .val (.int c0), .val (.int c1), .val (.int flags), .val (.ref nb1), .val (.ref nb4), .val (.int (2 : Int32)), .val (.int (0 : Int32)), .val (.int (1 : Int32)), .val (.int b2), .val (.int (1 : Int32)), .val (.int (1 : Int32)), .val (.int (1 : Int32)), .val (.int (1 : Int32)), .val (.int (1 : Int32))] [(.int (1 : Int32))])
                refine own_retN X68 hx hlk (t := .boolean) Bd.returns (by simp) (hb hby at_267) ?_ (by decide) (by decide)
                show Q0 n0 _ T68.heap _
                rw [hh68]
                exact ⟨rfl, N68⟩
            · show own_Go p e below _ T26 (mkF m 108 #[.val (.int ops), .val (.int c0), .val (.int c1), .val (.int flags), .val (.ref nb1), .val (.ref nb4), .val (.int (2 : Int32)), .val (.int (1 : Int32)), .val (.int b1), .val (.int b2), .unset, .unset, .unset, .unset, .unset] [(.int (1 : Int32)), (.ref nb4)])
              obtain ⟨cq71, kq71, q71a, q71b, q71c⟩ := isOf hZ rfl Eq26
              refine own_callV X26 hx (y := (⟨"com/example/kapu/kapu/service/Coverage$Part", "cover", "(Z)V"⟩ : MethodName)) (z := (⟨"com/example/kapu/kapu/service/Coverage$Part", "cover", "(Z)V"⟩ : MethodName)) hown (mvT hZ (hw _ (List.mem_of_getElem? (i := 50) rfl))) (mvT hZ (hw _ (List.mem_of_getElem? (i := 51) rfl))) (notFace_of_selects (args := #[]) (mvT hZ (hw _ (List.mem_of_getElem? (i := 53) rfl)))) (mvT hZ (hw _ (List.mem_of_getElem? (i := 53) rfl))) (mvT hZ (hw _ (List.mem_of_getElem? (i := 52) rfl))) (by decide) (backOf (W := 0) (rmC1 l Z a0 hw [] nb4 nb5 bz (0 : Int32) (0 : Int32) T26.heap n0 (Nat.le_trans Z0 K26.1) g_nb4 Eq26 Fq26_0 Fq26_1 Fq26_2 Fq26_3) hZ (hw _ (List.mem_of_getElem? (i := 54) rfl)) (hw _ (List.mem_of_getElem? (i := 3) rfl)) (by decide) (by decide)) q71a q71c (g := (mkF m 108 #[.val (.int ops), .val (.int c0), .val (.int c1), .val (.int flags), .val (.ref nb1), .val (.ref nb4), .val (.int (2 : Int32)), .val (.int (1 : Int32)), .val (.int b1), .val (.int b2), .unset, .unset, .unset, .unset, .unset] [(.int (1 : Int32)), (.ref nb4)])) rfl (by rw [hml]; rfl) (argsL := [(.int (1 : Int32))]) (rest := []) (lenOf pd_3 rfl) rfl (by show 2 * 0 + _ ≤ _; exact Nat.le_of_eq rfl) (hb hby at_108) rfl rfl (by decide) (by decide) ?_
              rintro v70 T70 L70 X70 ⟨rfl, Nq70, Kq70, Eq70, Fq70_0, Fq70_1, Fq70_2, Fq70_3⟩
              have N70 := Fr.app N26 Nq70
              have K70 : Keep h0 T70.heap [] := K26.trans Kq70 (allS (Or.inr sz_nb4) all0)
              show own_Go p e below _ T70 (mkF m 111 #[.val (.int ops), .val (.int c0), .val (.int c1), .val (.int flags), .val (.ref nb1), .val (.ref nb4), .val (.int (2 : Int32)), .val (.int (1 : Int32)), .val (.int b1), .val (.int b2), .unset, .unset, .unset, .unset, .unset] [])
              refine own_st (fun t_ k_ => XS.iload X70.here hx rfl (hb hby at_111) rfl k_) ?_
              show own_Go p e below _ T70 (mkF m 113 #[.val (.int ops), .val (.int c0), .val (.int c1), .val (.int flags), .val (.ref nb1), .val (.ref nb4), .val (.int (2 : Int32)), .val (.int (1 : Int32)), .val (.int b1), .val (.int b2), .unset, .unset, .unset, .unset, .unset] [(.int (2 : Int32))])
              refine own_st (fun t_ k_ => XS.iconst X70.here hx rfl (hb hby at_113) k_) ?_
              show own_Go p e below _ T70 (mkF m 114 #[.val (.int ops), .val (.int c0), .val (.int c1), .val (.int flags), .val (.ref nb1), .val (.ref nb4), .val (.int (2 : Int32)), .val (.int (1 : Int32)), .val (.int b1), .val (.int b2), .unset, .unset, .unset, .unset, .unset] [(.int (2 : Int32)), (.int (2 : Int32))])
              refine own_st (fun t_ k_ => XS.icmpNo X70.here hx rfl (hb hby at_114) rfl (by decide) k_) ?_
              show own_Go p e below _ T70 (mkF m 117 #[.val (.int ops), .val (.int c0), .val (.int c1), .val (.int flags), .val (.ref nb1), .val (.ref nb4), .val (.int (2 : Int32)), .val (.int (1 : Int32)), .val (.int b1), .val (.int b2), .unset, .unset, .unset, .unset, .unset] [])
              refine own_st (fun t_ k_ => XS.aload X70.here hx rfl (hb hby at_117) rfl rfl k_) ?_
              show own_Go p e below _ T70 (mkF m 119 #[.val (.int ops), .val (.int c0), .val (.int c1), .val (.int flags), .val (.ref nb1), .val (.ref nb4), .val (.int (2 : Int32)), .val (.int (1 : Int32)), .val (.int b1), .val (.int b2), .unset, .unset, .unset, .unset, .unset] [(.ref nb4)])
              refine own_st (fun t_ k_ => XS.iload X70.here hx rfl (hb hby at_119) rfl k_) ?_
              show own_Go p e below _ T70 (mkF m 121 #[.val (.int ops), .val (.int c0), .val (.int c1), .val (.int flags), .val (.ref nb1), .val (.ref nb4), .val (.int (2 : Int32)), .val (.int (1 : Int32)), .val (.int b1), .val (.int b2), .unset, .unset, .unset, .unset, .unset] [(.int b1), (.ref nb4)])
              rcases (h_b1 : b1 = (0 : Int32) ∨ b1 = (1 : Int32)) with rfl | rfl
              · show own_Go p e below _ T70 (mkF m 121 #[.val (.int ops), .val (.int c0), .val (.int c1), .val (.int flags), .val (.ref nb1), .val (.ref nb4), .val (.int (2 : Int32)), .val (.int (1 : Int32)), .val (.int (0 : Int32)), .val (.int b2), .unset, .unset, .unset, .unset, .unset] [(.int (0 : Int32)), (.ref nb4)])
                obtain ⟨cq73, kq73, q73a, q73b, q73c⟩ := isOf hZ rfl Eq70
                refine own_callV X70 hx (y := (⟨"com/example/kapu/kapu/service/Coverage$Part", "cover", "(Z)V"⟩ : MethodName)) (z := (⟨"com/example/kapu/kapu/service/Coverage$Part", "cover", "(Z)V"⟩ : MethodName)) hown (mvT hZ (hw _ (List.mem_of_getElem? (i := 50) rfl))) (mvT hZ (hw _ (List.mem_of_getElem? (i := 51) rfl))) (notFace_of_selects (args := #[]) (mvT hZ (hw _ (List.mem_of_getElem? (i := 53) rfl)))) (mvT hZ (hw _ (List.mem_of_getElem? (i := 53) rfl))) (mvT hZ (hw _ (List.mem_of_getElem? (i := 52) rfl))) (by decide) (backOf (W := 0) (rmC0 l Z a0 hw [] nb4 nb5 bz (1 : Int32) (0 : Int32) T70.heap n0 (Nat.le_trans Z0 K70.1) g_nb4 Eq70 Fq70_0 Fq70_1 Fq70_2 Fq70_3) hZ (hw _ (List.mem_of_getElem? (i := 54) rfl)) (hw _ (List.mem_of_getElem? (i := 3) rfl)) (by decide) (by decide)) q73a q73c (g := (mkF m 121 #[.val (.int ops), .val (.int c0), .val (.int c1), .val (.int flags), .val (.ref nb1), .val (.ref nb4), .val (.int (2 : Int32)), .val (.int (1 : Int32)), .val (.int (0 : Int32)), .val (.int b2), .unset, .unset, .unset, .unset, .unset] [(.int (0 : Int32)), (.ref nb4)])) rfl (by rw [hml]; rfl) (argsL := [(.int (0 : Int32))]) (rest := []) (lenOf pd_3 rfl) rfl (by show 2 * 0 + _ ≤ _; exact Nat.le_of_eq rfl) (hb hby at_121) rfl rfl (by decide) (by decide) ?_
                rintro v72 T72 L72 X72 ⟨rfl, Nq72, Kq72, Eq72, Fq72_0, Fq72_1, Fq72_2, Fq72_3⟩
                have N72 := Fr.app N70 Nq72
                have K72 : Keep h0 T72.heap [] := K70.trans Kq72 (allS (Or.inr sz_nb4) all0)
                show own_Go p e below _ T72 (mkF m 124 #[.val (.int ops), .val (.int c0), .val (.int c1), .val (.int flags), .val (.ref nb1), .val (.ref nb4), .val (.int (2 : Int32)), .val (.int (1 : Int32)), .val (.int (0 : Int32)), .val (.int b2), .unset, .unset, .unset, .unset, .unset] [])
                refine own_st (fun t_ k_ => XS.iload X72.here hx rfl (hb hby at_124) rfl k_) ?_
                show own_Go p e below _ T72 (mkF m 126 #[.val (.int ops), .val (.int c0), .val (.int c1), .val (.int flags), .val (.ref nb1), .val (.ref nb4), .val (.int (2 : Int32)), .val (.int (1 : Int32)), .val (.int (0 : Int32)), .val (.int b2), .unset, .unset, .unset, .unset, .unset] [(.int (2 : Int32))])
                refine own_st (fun t_ k_ => XS.iconst X72.here hx rfl (hb hby at_126) k_) ?_
                show own_Go p e below _ T72 (mkF m 127 #[.val (.int ops), .val (.int c0), .val (.int c1), .val (.int flags), .val (.ref nb1), .val (.ref nb4), .val (.int (2 : Int32)), .val (.int (1 : Int32)), .val (.int (0 : Int32)), .val (.int b2), .unset, .unset, .unset, .unset, .unset] [(.int (3 : Int32)), (.int (2 : Int32))])
                refine own_st (fun t_ k_ => XS.icmpYes X72.here hx rfl (pc0 := 127) (pc' := 137) rfl (hb hby at_127) rfl (by decide) (by decide) (by decide) k_) ?_
                show own_Go p e below _ T72 (mkF m 137 #[.val (.int ops), .val (.int c0), .val (.int c1), .val (.int flags), .val (.ref nb1), .val (.ref nb4), .val (.int (2 : Int32)), .val (.int (1 : Int32)), .val (.int (0 : Int32)), .val (.int b2), .unset, .unset, .unset, .unset, .unset] [])
                refine own_st (fun t_ k_ => XS.iload X72.here hx rfl (hb hby at_137) rfl k_) ?_
                show own_Go p e below _ T72 (mkF m 139 #[.val (.int ops), .val (.int c0), .val (.int c1), .val (.int flags), .val (.ref nb1), .val (.ref nb4), .val (.int (2 : Int32)), .val (.int (1 : Int32)), .val (.int (0 : Int32)), .val (.int b2), .unset, .unset, .unset, .unset, .unset] [(.int (2 : Int32))])
                refine own_st (fun t_ k_ => XS.iconst X72.here hx rfl (hb hby at_139) k_) ?_
                show own_Go p e below _ T72 (mkF m 140 #[.val (.int ops), .val (.int c0), .val (.int c1), .val (.int flags), .val (.ref nb1), .val (.ref nb4), .val (.int (2 : Int32)), .val (.int (1 : Int32)), .val (.int (0 : Int32)), .val (.int b2), .unset, .unset, .unset, .unset, .unset] [(.int (1 : Int32)), (.int (2 : Int32))])
                refine own_st (fun t_ k_ => XS.icmpNo X72.here hx rfl (hb hby at_140) rfl (by decide) k_) ?_
                show own_Go p e below _ T72 (mkF m 143 #[.val (.int ops), .val (.int c0), .val (.int c1), .val (.int flags), .val (.ref nb1), .val (.ref nb4), .val (.int (2 : Int32)), .val (.int (1 : Int32)), .val (.int (0 : Int32)), .val (.int b2), .unset, .unset, .unset, .unset, .unset] [])
                refine own_st (fun t_ k_ => XS.iload X72.here hx rfl (hb hby at_143) rfl k_) ?_
                show own_Go p e below _ T72 (mkF m 145 #[.val (.int ops), .val (.int c0), .val (.int c1), .val (.int flags), .val (.ref nb1), .val (.ref nb4), .val (.int (2 : Int32)), .val (.int (1 : Int32)), .val (.int (0 : Int32)), .val (.int b2), .unset, .unset, .unset, .unset, .unset] [(.int (1 : Int32))])
                refine own_st (fun t_ k_ => XS.ifYes X72.here hx rfl (pc0 := 145) (pc' := 170) rfl (hb hby at_145) rfl (by decide) (by decide) (by decide) k_) ?_
                show own_Go p e below _ T72 (mkF m 170 #[.val (.int ops), .val (.int c0), .val (.int c1), .val (.int flags), .val (.ref nb1), .val (.ref nb4), .val (.int (2 : Int32)), .val (.int (1 : Int32)), .val (.int (0 : Int32)), .val (.int b2), .unset, .unset, .unset, .unset, .unset] [])
                refine own_st (fun t_ k_ => XS.iconst X72.here hx rfl (hb hby at_170) k_) ?_
                show own_Go p e below _ T72 (mkF m 171 #[.val (.int ops), .val (.int c0), .val (.int c1), .val (.int flags), .val (.ref nb1), .val (.ref nb4), .val (.int (2 : Int32)), .val (.int (1 : Int32)), .val (.int (0 : Int32)), .val (.int b2), .unset, .unset, .unset, .unset, .unset] [(.int (1 : Int32))])
                refine own_st (fun t_ k_ => XS.goto X72.here hx rfl (pc0 := 171) (pc' := 175) rfl (hb hby at_171) (by decide) (by decide) k_) ?_
                show own_Go p e below _ T72 (mkF m 175 #[.val (.int ops), .val (.int c0), .val (.int c1), .val (.int flags), .val (.ref nb1), .val (.ref nb4), .val (.int (2 : Int32)), .val (.int (1 : Int32)), .val (.int (0 : Int32)), .val (.int b2), .unset, .unset, .unset, .unset, .unset] [(.int (1 : Int32))])
                refine own_st (fun t_ k_ => XS.istore X72.here hx rfl (hb hby at_175) rfl (l' := #[.val (.int ops), .val (.int c0), .val (.int c1), .val (.int flags), .val (.ref nb1), .val (.ref nb4), .val (.int (2 : Int32)), .val (.int (1 : Int32)), .val (.int (0 : Int32)), .val (.int b2), .val (.int (1 : Int32)), .unset, .unset, .unset, .unset]) rfl k_) ?_
                show own_Go p e below _ T72 (mkF m 177 #[.val (.int ops), .val (.int c0), .val (.int c1), .val (.int flags), .val (.ref nb1), .val (.ref nb4), .val (.int (2 : Int32)), .val (.int (1 : Int32)), .val (.int (0 : Int32)), .val (.int b2), .val (.int (1 : Int32)), .unset, .unset, .unset, .unset] [])
                refine own_st (fun t_ k_ => XS.iload X72.here hx rfl (hb hby at_177) rfl k_) ?_
                show own_Go p e below _ T72 (mkF m 179 #[.val (.int ops), .val (.int c0), .val (.int c1), .val (.int flags), .val (.ref nb1), .val (.ref nb4), .val (.int (2 : Int32)), .val (.int (1 : Int32)), .val (.int (0 : Int32)), .val (.int b2), .val (.int (1 : Int32)), .unset, .unset, .unset, .unset] [(.int (2 : Int32))])
                refine own_st (fun t_ k_ => XS.iconst X72.here hx rfl (hb hby at_179) k_) ?_
                show own_Go p e below _ T72 (mkF m 180 #[.val (.int ops), .val (.int c0), .val (.int c1), .val (.int flags), .val (.ref nb1), .val (.ref nb4), .val (.int (2 : Int32)), .val (.int (1 : Int32)), .val (.int (0 : Int32)), .val (.int b2), .val (.int (1 : Int32)), .unset, .unset, .unset, .unset] [(.int (1 : Int32)), (.int (2 : Int32))])
                refine own_st (fun t_ k_ => XS.icmpNo X72.here hx rfl (hb hby at_180) rfl (by decide) k_) ?_
                show own_Go p e below _ T72 (mkF m 183 #[.val (.int ops), .val (.int c0), .val (.int c1), .val (.int flags), .val (.ref nb1), .val (.ref nb4), .val (.int (2 : Int32)), .val (.int (1 : Int32)), .val (.int (0 : Int32)), .val (.int b2), .val (.int (1 : Int32)), .unset, .unset, .unset, .unset] [])
                refine own_st (fun t_ k_ => XS.iload X72.here hx rfl (hb hby at_183) rfl k_) ?_
                show own_Go p e below _ T72 (mkF m 185 #[.val (.int ops), .val (.int c0), .val (.int c1), .val (.int flags), .val (.ref nb1), .val (.ref nb4), .val (.int (2 : Int32)), .val (.int (1 : Int32)), .val (.int (0 : Int32)), .val (.int b2), .val (.int (1 : Int32)), .unset, .unset, .unset, .unset] [(.int (1 : Int32))])
                refine own_st (fun t_ k_ => XS.ifNo X72.here hx rfl (hb hby at_185) rfl (by decide) k_) ?_
                show own_Go p e below _ T72 (mkF m 188 #[.val (.int ops), .val (.int c0), .val (.int c1), .val (.int flags), .val (.ref nb1), .val (.ref nb4), .val (.int (2 : Int32)), .val (.int (1 : Int32)), .val (.int (0 : Int32)), .val (.int b2), .val (.int (1 : Int32)), .unset, .unset, .unset, .unset] [])
                refine own_st (fun t_ k_ => XS.iload X72.here hx rfl (hb hby at_188) rfl k_) ?_
                show own_Go p e below _ T72 (mkF m 190 #[.val (.int ops), .val (.int c0), .val (.int c1), .val (.int flags), .val (.ref nb1), .val (.ref nb4), .val (.int (2 : Int32)), .val (.int (1 : Int32)), .val (.int (0 : Int32)), .val (.int b2), .val (.int (1 : Int32)), .unset, .unset, .unset, .unset] [(.int (2 : Int32))])
                refine own_st (fun t_ k_ => XS.iconst X72.here hx rfl (hb hby at_190) k_) ?_
                show own_Go p e below _ T72 (mkF m 191 #[.val (.int ops), .val (.int c0), .val (.int c1), .val (.int flags), .val (.ref nb1), .val (.ref nb4), .val (.int (2 : Int32)), .val (.int (1 : Int32)), .val (.int (0 : Int32)), .val (.int b2), .val (.int (1 : Int32)), .unset, .unset, .unset, .unset] [(.int (2 : Int32)), (.int (2 : Int32))])
                refine own_st (fun t_ k_ => XS.icmpNo X72.here hx rfl (hb hby at_191) rfl (by decide) k_) ?_
                show own_Go p e below _ T72 (mkF m 194 #[.val (.int ops), .val (.int c0), .val (.int c1), .val (.int flags), .val (.ref nb1), .val (.ref nb4), .val (.int (2 : Int32)), .val (.int (1 : Int32)), .val (.int (0 : Int32)), .val (.int b2), .val (.int (1 : Int32)), .unset, .unset, .unset, .unset] [])
                refine own_st (fun t_ k_ => XS.iload X72.here hx rfl (hb hby at_194) rfl k_) ?_
                show own_Go p e below _ T72 (mkF m 196 #[.val (.int ops), .val (.int c0), .val (.int c1), .val (.int flags), .val (.ref nb1), .val (.ref nb4), .val (.int (2 : Int32)), .val (.int (1 : Int32)), .val (.int (0 : Int32)), .val (.int b2), .val (.int (1 : Int32)), .unset, .unset, .unset, .unset] [(.int (0 : Int32))])
                refine own_st (fun t_ k_ => XS.ifYes X72.here hx rfl (pc0 := 196) (pc' := 210) rfl (hb hby at_196) rfl (by decide) (by decide) (by decide) k_) ?_
                show own_Go p e below _ T72 (mkF m 210 #[.val (.int ops), .val (.int c0), .val (.int c1), .val (.int flags), .val (.ref nb1), .val (.ref nb4), .val (.int (2 : Int32)), .val (.int (1 : Int32)), .val (.int (0 : Int32)), .val (.int b2), .val (.int (1 : Int32)), .unset, .unset, .unset, .unset] [])
                refine own_st (fun t_ k_ => XS.iconst X72.here hx rfl (hb hby at_210) k_) ?_
                show own_Go p e below _ T72 (mkF m 211 #[.val (.int ops), .val (.int c0), .val (.int c1), .val (.int flags), .val (.ref nb1), .val (.ref nb4), .val (.int (2 : Int32)), .val (.int (1 : Int32)), .val (.int (0 : Int32)), .val (.int b2), .val (.int (1 : Int32)), .unset, .unset, .unset, .unset] [(.int (1 : Int32))])
                refine own_st (fun t_ k_ => XS.goto X72.here hx rfl (pc0 := 211) (pc' := 215) rfl (hb hby at_211) (by decide) (by decide) k_) ?_
                show own_Go p e below _ T72 (mkF m 215 #[.val (.int ops), .val (.int c0), .val (.int c1), .val (.int flags), .val (.ref nb1), .val (.ref nb4), .val (.int (2 : Int32)), .val (.int (1 : Int32)), .val (.int (0 : Int32)), .val (.int b2), .val (.int (1 : Int32)), .unset, .unset, .unset, .unset] [(.int (1 : Int32))])
                refine own_st (fun t_ k_ => XS.istore X72.here hx rfl (hb hby at_215) rfl (l' := #[.val (.int ops), .val (.int c0), .val (.int c1), .val (.int flags), .val (.ref nb1), .val (.ref nb4), .val (.int (2 : Int32)), .val (.int (1 : Int32)), .val (.int (0 : Int32)), .val (.int b2), .val (.int (1 : Int32)), .val (.int (1 : Int32)), .unset, .unset, .unset]) rfl k_) ?_
                show own_Go p e below _ T72 (mkF m 217 #[.val (.int ops), .val (.int c0), .val (.int c1), .val (.int flags), .val (.ref nb1), .val (.ref nb4), .val (.int (2 : Int32)), .val (.int (1 : Int32)), .val (.int (0 : Int32)), .val (.int b2), .val (.int (1 : Int32)), .val (.int (1 : Int32)), .unset, .unset, .unset] [])
                refine own_st (fun t_ k_ => XS.aload X72.here hx rfl (hb hby at_217) rfl rfl k_) ?_
                show own_Go p e below _ T72 (mkF m 219 #[.val (.int ops), .val (.int c0), .val (.int c1), .val (.int flags), .val (.ref nb1), .val (.ref nb4), .val (.int (2 : Int32)), .val (.int (1 : Int32)), .val (.int (0 : Int32)), .val (.int b2), .val (.int (1 : Int32)), .val (.int (1 : Int32)), .unset, .unset, .unset] [(.ref nb4)])
                refine own_st (fun t_ k_ => XS.iconst X72.here hx rfl (hb hby at_219) k_) ?_
                show own_Go p e below _ T72 (mkF m 220 #[.val (.int ops), .val (.int c0), .val (.int c1), .val (.int flags), .val (.ref nb1), .val (.ref nb4), .val (.int (2 : Int32)), .val (.int (1 : Int32)), .val (.int (0 : Int32)), .val (.int b2), .val (.int (1 : Int32)), .val (.int (1 : Int32)), .unset, .unset, .unset] [(.int (1 : Int32)), (.ref nb4)])
                obtain ⟨cq75, kq75, q75a, q75b, q75c⟩ := isOf hZ rfl Eq72
                refine own_callV X72 hx (y := (⟨"com/example/kapu/kapu/service/Coverage$Part", "isCovered", "(Z)Z"⟩ : MethodName)) (z := (⟨"com/example/kapu/kapu/service/Coverage$Part", "isCovered", "(Z)Z"⟩ : MethodName)) hown (mvT hZ (hw _ (List.mem_of_getElem? (i := 41) rfl))) (mvT hZ (hw _ (List.mem_of_getElem? (i := 42) rfl))) (notFace_of_selects (args := #[]) (mvT hZ (hw _ (List.mem_of_getElem? (i := 44) rfl)))) (mvT hZ (hw _ (List.mem_of_getElem? (i := 44) rfl))) (mvT hZ (hw _ (List.mem_of_getElem? (i := 43) rfl))) (by decide) (backOf (W := 0) (rmV1 l Z a0 hw [] nb4 (1 : Int32) T72.heap n0 (Nat.le_trans Z0 K72.1) Fq72_2 rfl) hZ (hw _ (List.mem_of_getElem? (i := 45) rfl)) (hw _ (List.mem_of_getElem? (i := 3) rfl)) (by decide) (by decide)) q75a q75c (g := (mkF m 220 #[.val (.int ops), .val (.int c0), .val (.int c1), .val (.int flags), .val (.ref nb1), .val (.ref nb4), .val (.int (2 : Int32)), .val (.int (1 : Int32)), .val (.int (0 : Int32)), .val (.int b2), .val (.int (1 : Int32)), .val (.int (1 : Int32)), .unset, .unset, .unset] [(.int (1 : Int32)), (.ref nb4)])) rfl (by rw [hml]; rfl) (argsL := [(.int (1 : Int32))]) (rest := []) (lenOf pd_2 rfl) rfl (by show 2 * 0 + _ ≤ _; exact Nat.le_of_eq rfl) (hb hby at_220) rfl rfl (by decide) (by decide) ?_
                rintro v74 T74 L74 X74 ⟨rfl, Nq74, hh74⟩
                have N74 := Fr.app N72 Nq74
                show own_Go p e below _ T74 (mkF m 223 #[.val (.int ops), .val (.int c0), .val (.int c1), .val (.int flags), .val (.ref nb1), .val (.ref nb4), .val (.int (2 : Int32)), .val (.int (1 : Int32)), .val (.int (0 : Int32)), .val (.int b2), .val (.int (1 : Int32)), .val (.int (1 : Int32)), .unset, .unset, .unset] [(.int (1 : Int32))])
                refine own_st (fun t_ k_ => XS.istore X74.here hx rfl (hb hby at_223) rfl (l' := #[.val (.int ops), .val (.int c0), .val (.int c1), .val (.int flags), .val (.ref nb1), .val (.ref nb4), .val (.int (2 : Int32)), .val (.int (1 : Int32)), .val (.int (0 : Int32)), .val (.int b2), .val (.int (1 : Int32)), .val (.int (1 : Int32)), .val (.int (1 : Int32)), .unset, .unset]) rfl k_) ?_
                show own_Go p e below _ T74 (mkF m 225 #[.val (.int ops), .val (.int c0), .val (.int c1), .val (.int flags), .val (.ref nb1), .val (.ref nb4), .val (.int (2 : Int32)), .val (.int (1 : Int32)), .val (.int (0 : Int32)), .val (.int b2), .val (.int (1 : Int32)), .val (.int (1 : Int32)), .val (.int (1 : Int32)), .unset, .unset] [])
                refine own_st (fun t_ k_ => XS.aload X74.here hx rfl (hb hby at_225) rfl rfl k_) ?_
                show own_Go p e below _ T74 (mkF m 227 #[.val (.int ops), .val (.int c0), .val (.int c1), .val (.int flags), .val (.ref nb1), .val (.ref nb4), .val (.int (2 : Int32)), .val (.int (1 : Int32)), .val (.int (0 : Int32)), .val (.int b2), .val (.int (1 : Int32)), .val (.int (1 : Int32)), .val (.int (1 : Int32)), .unset, .unset] [(.ref nb4)])
                refine own_st (fun t_ k_ => XS.iconst X74.here hx rfl (hb hby at_227) k_) ?_
                show own_Go p e below _ T74 (mkF m 228 #[.val (.int ops), .val (.int c0), .val (.int c1), .val (.int flags), .val (.ref nb1), .val (.ref nb4), .val (.int (2 : Int32)), .val (.int (1 : Int32)), .val (.int (0 : Int32)), .val (.int b2), .val (.int (1 : Int32)), .val (.int (1 : Int32)), .val (.int (1 : Int32)), .unset, .unset] [(.int (0 : Int32)), (.ref nb4)])
                obtain ⟨cq77, kq77, q77a, q77b, q77c⟩ := isOf hZ hh74 Eq72
                refine own_callV X74 hx (y := (⟨"com/example/kapu/kapu/service/Coverage$Part", "isCovered", "(Z)Z"⟩ : MethodName)) (z := (⟨"com/example/kapu/kapu/service/Coverage$Part", "isCovered", "(Z)Z"⟩ : MethodName)) hown (mvT hZ (hw _ (List.mem_of_getElem? (i := 41) rfl))) (mvT hZ (hw _ (List.mem_of_getElem? (i := 42) rfl))) (notFace_of_selects (args := #[]) (mvT hZ (hw _ (List.mem_of_getElem? (i := 44) rfl)))) (mvT hZ (hw _ (List.mem_of_getElem? (i := 44) rfl))) (mvT hZ (hw _ (List.mem_of_getElem? (i := 43) rfl))) (by decide) (backOf (W := 0) (rmV0 l Z a0 hw [] nb4 (1 : Int32) T72.heap n0 (Nat.le_trans Z0 K72.1) Fq72_3 rfl) hZ (hw _ (List.mem_of_getElem? (i := 45) rfl)) (hw _ (List.mem_of_getElem? (i := 3) rfl)) (by decide) (by decide)) q77a q77c (g := (mkF m 228 #[.val (.int ops), .val (.int c0), .val (.int c1), .val (.int flags), .val (.ref nb1), .val (.ref nb4), .val (.int (2 : Int32)), .val (.int (1 : Int32)), .val (.int (0 : Int32)), .val (.int b2), .val (.int (1 : Int32)), .val (.int (1 : Int32)), .val (.int (1 : Int32)), .unset, .unset] [(.int (0 : Int32)), (.ref nb4)])) rfl (by rw [hml]; rfl) (argsL := [(.int (0 : Int32))]) (rest := []) (lenOf pd_2 rfl) rfl (by show 2 * 0 + _ ≤ _; exact Nat.le_of_eq rfl) (hb hby at_228) rfl hh74 (by decide) (by decide) ?_
                rintro v76 T76 L76 X76 ⟨rfl, Nq76, hh76⟩
                have N76 := Fr.app N74 Nq76
                show own_Go p e below _ T76 (mkF m 231 #[.val (.int ops), .val (.int c0), .val (.int c1), .val (.int flags), .val (.ref nb1), .val (.ref nb4), .val (.int (2 : Int32)), .val (.int (1 : Int32)), .val (.int (0 : Int32)), .val (.int b2), .val (.int (1 : Int32)), .val (.int (1 : Int32)), .val (.int (1 : Int32)), .unset, .unset] [(.int (1 : Int32))])
                refine own_st (fun t_ k_ => XS.istore X76.here hx rfl (hb hby at_231) rfl (l' := #[.val (.int ops), .val (.int c0), .val (.int c1), .val (.int flags), .val (.ref nb1), .val (.ref nb4), .val (.int (2 : Int32)), .val (.int (1 : Int32)), .val (.int (0 : Int32)), .val (.int b2), .val (.int (1 : Int32)), .val (.int (1 : Int32)), .val (.int (1 : Int32)), .val (.int (1 : Int32)), .unset]) rfl k_) ?_
                show own_Go p e below _ T76 (mkF m 233 #[.val (.int ops), .val (.int c0), .val (.int c1), .val (.int flags), .val (.ref nb1), .val (.ref nb4), .val (.int (2 : Int32)), .val (.int (1 : Int32)), .val (.int (0 : Int32)), .val (.int b2), .val (.int (1 : Int32)), .val (.int (1 : Int32)), .val (.int (1 : Int32)), .val (.int (1 : Int32)), .unset] [])
                refine own_st (fun t_ k_ => XS.aload X76.here hx rfl (hb hby at_233) rfl rfl k_) ?_
                show own_Go p e below _ T76 (mkF m 235 #[.val (.int ops), .val (.int c0), .val (.int c1), .val (.int flags), .val (.ref nb1), .val (.ref nb4), .val (.int (2 : Int32)), .val (.int (1 : Int32)), .val (.int (0 : Int32)), .val (.int b2), .val (.int (1 : Int32)), .val (.int (1 : Int32)), .val (.int (1 : Int32)), .val (.int (1 : Int32)), .unset] [(.ref nb4)])
                refine own_st (fun t_ k_ => XS.iconst X76.here hx rfl (hb hby at_235) k_) ?_
                show own_Go p e below _ T76 (mkF m 236 #[.val (.int ops), .val (.int c0), .val (.int c1), .val (.int flags), .val (.ref nb1), .val (.ref nb4), .val (.int (2 : Int32)), .val (.int (1 : Int32)), .val (.int (0 : Int32)), .val (.int b2), .val (.int (1 : Int32)), .val (.int (1 : Int32)), .val (.int (1 : Int32)), .val (.int (1 : Int32)), .unset] [(.int (1 : Int32)), (.ref nb4)])
                obtain ⟨cq79, kq79, q79a, q79b, q79c⟩ := isOf hZ hh76 Eq72
                refine own_callV X76 hx (y := (⟨"com/example/kapu/kapu/service/Coverage$Part", "isCovered", "(Z)Z"⟩ : MethodName)) (z := (⟨"com/example/kapu/kapu/service/Coverage$Part", "isCovered", "(Z)Z"⟩ : MethodName)) hown (mvT hZ (hw _ (List.mem_of_getElem? (i := 41) rfl))) (mvT hZ (hw _ (List.mem_of_getElem? (i := 42) rfl))) (notFace_of_selects (args := #[]) (mvT hZ (hw _ (List.mem_of_getElem? (i := 44) rfl)))) (mvT hZ (hw _ (List.mem_of_getElem? (i := 44) rfl))) (mvT hZ (hw _ (List.mem_of_getElem? (i := 43) rfl))) (by decide) (backOf (W := 0) (rmV1 l Z a0 hw [] nb4 (1 : Int32) T72.heap n0 (Nat.le_trans Z0 K72.1) Fq72_2 rfl) hZ (hw _ (List.mem_of_getElem? (i := 45) rfl)) (hw _ (List.mem_of_getElem? (i := 3) rfl)) (by decide) (by decide)) q79a q79c (g := (mkF m 236 #[.val (.int ops), .val (.int c0), .val (.int c1), .val (.int flags), .val (.ref nb1), .val (.ref nb4), .val (.int (2 : Int32)), .val (.int (1 : Int32)), .val (.int (0 : Int32)), .val (.int b2), .val (.int (1 : Int32)), .val (.int (1 : Int32)), .val (.int (1 : Int32)), .val (.int (1 : Int32)), .unset] [(.int (1 : Int32)), (.ref nb4)])) rfl (by rw [hml]; rfl) (argsL := [(.int (1 : Int32))]) (rest := []) (lenOf pd_2 rfl) rfl (by show 2 * 0 + _ ≤ _; exact Nat.le_of_eq rfl) (hb hby at_236) rfl hh76 (by decide) (by decide) ?_
                rintro v78 T78 L78 X78 ⟨rfl, Nq78, hh78⟩
                have N78 := Fr.app N76 Nq78
                show own_Go p e below _ T78 (mkF m 239 #[.val (.int ops), .val (.int c0), .val (.int c1), .val (.int flags), .val (.ref nb1), .val (.ref nb4), .val (.int (2 : Int32)), .val (.int (1 : Int32)), .val (.int (0 : Int32)), .val (.int b2), .val (.int (1 : Int32)), .val (.int (1 : Int32)), .val (.int (1 : Int32)), .val (.int (1 : Int32)), .unset] [(.int (1 : Int32))])
                refine own_st (fun t_ k_ => XS.istore X78.here hx rfl (hb hby at_239) rfl (l' := #[.val (.int ops), .val (.int c0), .val (.int c1), .val (.int flags), .val (.ref nb1), .val (.ref nb4), .val (.int (2 : Int32)), .val (.int (1 : Int32)), .val (.int (0 : Int32)), .val (.int b2), .val (.int (1 : Int32)), .val (.int (1 : Int32)), .val (.int (1 : Int32)), .val (.int (1 : Int32)), .val (.int (1 : Int32))]) rfl k_) ?_
                show own_Go p e below _ T78 (mkF m 241 #[.val (.int ops), .val (.int c0), .val (.int c1), .val (.int flags), .val (.ref nb1), .val (.ref nb4), .val (.int (2 : Int32)), .val (.int (1 : Int32)), .val (.int (0 : Int32)), .val (.int b2), .val (.int (1 : Int32)), .val (.int (1 : Int32)), .val (.int (1 : Int32)), .val (.int (1 : Int32)), .val (.int (1 : Int32))] [])
                refine own_st (fun t_ k_ => XS.iload X78.here hx rfl (hb hby at_241) rfl k_) ?_
                show own_Go p e below _ T78 (mkF m 243 #[.val (.int ops), .val (.int c0), .val (.int c1), .val (.int flags), .val (.ref nb1), .val (.ref nb4), .val (.int (2 : Int32)), .val (.int (1 : Int32)), .val (.int (0 : Int32)), .val (.int b2), .val (.int (1 : Int32)), .val (.int (1 : Int32)), .val (.int (1 : Int32)), .val (.int (1 : Int32)), .val (.int (1 : Int32))] [(.int (1 : Int32))])
                refine own_st (fun t_ k_ => XS.iload X78.here hx rfl (hb hby at_243) rfl k_) ?_
                show own_Go p e below _ T78 (mkF m 245 #[.val (.int ops), .val (.int c0), .val (.int c1), .val (.int flags), .val (.ref nb1), .val (.ref nb4), .val (.int (2 : Int32)), .val (.int (1 : Int32)), .val (.int (0 : Int32)), .val (.int b2), .val (.int (1 : Int32)), .val (.int (1 : Int32)), .val (.int (1 : Int32)), .val (.int (1 : Int32)), .val (.int (1 : Int32))] [(.int (1 : Int32)), (.int (1 : Int32))])
                refine own_st (fun t_ k_ => XS.icmpNo X78.here hx rfl (hb hby at_245) rfl (by decide) k_) ?_
                show own_Go p e below _ T78 (mkF m 248 #[.val (.int ops), .val (.int c0), .val (.int c1), .val (.int flags), .val (.ref nb1), .val (.ref nb4), .val (.int (2 : Int32)), .val (.int (1 : Int32)), .val (.int (0 : Int32)), .val (.int b2), .val (.int (1 : Int32)), .val (.int (1 : Int32)), .val (.int (1 : Int32)), .val (.int (1 : Int32)), .val (.int (1 : Int32))] [])
                refine own_st (fun t_ k_ => XS.iload X78.here hx rfl (hb hby at_248) rfl k_) ?_
                show own_Go p e below _ T78 (mkF m 250 #[.val (.int ops), .val (.int c0), .val (.int c1), .val (.int flags), .val (.ref nb1), .val (.ref nb4), .val (.int (2 : Int32)), .val (.int (1 : Int32)), .val (.int (0 : Int32)), .val (.int b2), .val (.int (1 : Int32)), .val (.int (1 : Int32)), .val (.int (1 : Int32)), .val (.int (1 : Int32)), .val (.int (1 : Int32))] [(.int (1 : Int32))])
                refine own_st (fun t_ k_ => XS.iload X78.here hx rfl (hb hby at_250) rfl k_) ?_
                show own_Go p e below _ T78 (mkF m 252 #[.val (.int ops), .val (.int c0), .val (.int c1), .val (.int flags), .val (.ref nb1), .val (.ref nb4), .val (.int (2 : Int32)), .val (.int (1 : Int32)), .val (.int (0 : Int32)), .val (.int b2), .val (.int (1 : Int32)), .val (.int (1 : Int32)), .val (.int (1 : Int32)), .val (.int (1 : Int32)), .val (.int (1 : Int32))] [(.int (1 : Int32)), (.int (1 : Int32))])
                refine own_st (fun t_ k_ => XS.icmpNo X78.here hx rfl (hb hby at_252) rfl (by decide) k_) ?_
                show own_Go p e below _ T78 (mkF m 255 #[.val (.int ops), .val (.int c0), .val (.int c1), .val (.int flags), .val (.ref nb1), .val (.ref nb4), .val (.int (2 : Int32)), .val (.int (1 : Int32)), .val (.int (0 : Int32)), .val (.int b2), .val (.int (1 : Int32)), .val (.int (1 : Int32)), .val (.int (1 : Int32)), .val (.int (1 : Int32)), .val (.int (1 : Int32))] [])
                refine own_st (fun t_ k_ => XS.iload X78.here hx rfl (hb hby at_255) rfl k_) ?_
                show own_Go p e below _ T78 (mkF m 257 #[.val (.int ops), .val (.int c0), .val (.int c1), .val (.int flags), .val (.ref nb1), .val (.ref nb4), .val (.int (2 : Int32)), .val (.int (1 : Int32)), .val (.int (0 : Int32)), .val (.int b2), .val (.int (1 : Int32)), .val (.int (1 : Int32)), .val (.int (1 : Int32)), .val (.int (1 : Int32)), .val (.int (1 : Int32))] [(.int (1 : Int32))])
                refine own_st (fun t_ k_ => XS.iload X78.here hx rfl (hb hby at_257) rfl k_) ?_
                show own_Go p e below _ T78 (mkF m 259 #[.val (.int ops), .val (.int c0), .val (.int c1), .val (.int flags), .val (.ref nb1), .val (.ref nb4), .val (.int (2 : Int32)), .val (.int (1 : Int32)), .val (.int (0 : Int32)), .val (.int b2), .val (.int (1 : Int32)), .val (.int (1 : Int32)), .val (.int (1 : Int32)), .val (.int (1 : Int32)), .val (.int (1 : Int32))] [(.int (1 : Int32)), (.int (1 : Int32))])
                refine own_st (fun t_ k_ => XS.icmpNo X78.here hx rfl (hb hby at_259) rfl (by decide) k_) ?_
                show own_Go p e below _ T78 (mkF m 262 #[.val (.int ops), .val (.int c0), .val (.int c1), .val (.int flags), .val (.ref nb1), .val (.ref nb4), .val (.int (2 : Int32)), .val (.int (1 : Int32)), .val (.int (0 : Int32)), .val (.int b2), .val (.int (1 : Int32)), .val (.int (1 : Int32)), .val (.int (1 : Int32)), .val (.int (1 : Int32)), .val (.int (1 : Int32))] [])
                refine own_st (fun t_ k_ => XS.iconst X78.here hx rfl (hb hby at_262) k_) ?_
                show own_Go p e below _ T78 (mkF m 263 #[.val (.int ops), .val (.int c0), .val (.int c1), .val (.int flags), .val (.ref nb1), .val (.ref nb4), .val (.int (2 : Int32)), .val (.int (1 : Int32)), .val (.int (0 : Int32)), .val (.int b2), .val (.int (1 : Int32)), .val (.int (1 : Int32)), .val (.int (1 : Int32)), .val (.int (1 : Int32)), .val (.int (1 : Int32))] [(.int (1 : Int32))])
                refine own_st (fun t_ k_ => XS.goto X78.here hx rfl (pc0 := 263) (pc' := 267) rfl (hb hby at_263) (by decide) (by decide) k_) ?_
                show own_Go p e below _ T78 (mkF m 267 #[.val (.int ops), .val (.int c0), .val (.int c1), .val (.int flags), .val (.ref nb1), .val (.ref nb4), .val (.int (2 : Int32)), .val (.int (1 : Int32)), .val (.int (0 : Int32)), .val (.int b2), .val (.int (1 : Int32)), .val (.int (1 : Int32)), .val (.int (1 : Int32)), .val (.int (1 : Int32)), .val (.int (1 : Int32))] [(.int (1 : Int32))])
                refine own_retN X78 hx hlk (t := .boolean) Bd.returns (by simp) (hb hby at_267) ?_ (by decide) (by decide)
                show Q0 n0 _ T78.heap _
                rw [hh78]
                exact ⟨rfl, N78⟩
              · show own_Go p e below _ T70 (mkF m 121 #[.val (.int ops), .val (.int c0), .val (.int c1), .val (.int flags), .val (.ref nb1), .val (.ref nb4), .val (.int (2 : Int32)), .val (.int (1 : Int32)), .val (.int (1 : Int32)), .val (.int b2), .unset, .unset, .unset, .unset, .unset] [(.int (1 : Int32)), (.ref nb4)])
                obtain ⟨cq81, kq81, q81a, q81b, q81c⟩ := isOf hZ rfl Eq70
                refine own_callV X70 hx (y := (⟨"com/example/kapu/kapu/service/Coverage$Part", "cover", "(Z)V"⟩ : MethodName)) (z := (⟨"com/example/kapu/kapu/service/Coverage$Part", "cover", "(Z)V"⟩ : MethodName)) hown (mvT hZ (hw _ (List.mem_of_getElem? (i := 50) rfl))) (mvT hZ (hw _ (List.mem_of_getElem? (i := 51) rfl))) (notFace_of_selects (args := #[]) (mvT hZ (hw _ (List.mem_of_getElem? (i := 53) rfl)))) (mvT hZ (hw _ (List.mem_of_getElem? (i := 53) rfl))) (mvT hZ (hw _ (List.mem_of_getElem? (i := 52) rfl))) (by decide) (backOf (W := 0) (rmC1 l Z a0 hw [] nb4 nb5 bz (1 : Int32) (0 : Int32) T70.heap n0 (Nat.le_trans Z0 K70.1) g_nb4 Eq70 Fq70_0 Fq70_1 Fq70_2 Fq70_3) hZ (hw _ (List.mem_of_getElem? (i := 54) rfl)) (hw _ (List.mem_of_getElem? (i := 3) rfl)) (by decide) (by decide)) q81a q81c (g := (mkF m 121 #[.val (.int ops), .val (.int c0), .val (.int c1), .val (.int flags), .val (.ref nb1), .val (.ref nb4), .val (.int (2 : Int32)), .val (.int (1 : Int32)), .val (.int (1 : Int32)), .val (.int b2), .unset, .unset, .unset, .unset, .unset] [(.int (1 : Int32)), (.ref nb4)])) rfl (by rw [hml]; rfl) (argsL := [(.int (1 : Int32))]) (rest := []) (lenOf pd_3 rfl) rfl (by show 2 * 0 + _ ≤ _; exact Nat.le_of_eq rfl) (hb hby at_121) rfl rfl (by decide) (by decide) ?_
                rintro v80 T80 L80 X80 ⟨rfl, Nq80, Kq80, Eq80, Fq80_0, Fq80_1, Fq80_2, Fq80_3⟩
                have N80 := Fr.app N70 Nq80
                have K80 : Keep h0 T80.heap [] := K70.trans Kq80 (allS (Or.inr sz_nb4) all0)
                show own_Go p e below _ T80 (mkF m 124 #[.val (.int ops), .val (.int c0), .val (.int c1), .val (.int flags), .val (.ref nb1), .val (.ref nb4), .val (.int (2 : Int32)), .val (.int (1 : Int32)), .val (.int (1 : Int32)), .val (.int b2), .unset, .unset, .unset, .unset, .unset] [])
                refine own_st (fun t_ k_ => XS.iload X80.here hx rfl (hb hby at_124) rfl k_) ?_
                show own_Go p e below _ T80 (mkF m 126 #[.val (.int ops), .val (.int c0), .val (.int c1), .val (.int flags), .val (.ref nb1), .val (.ref nb4), .val (.int (2 : Int32)), .val (.int (1 : Int32)), .val (.int (1 : Int32)), .val (.int b2), .unset, .unset, .unset, .unset, .unset] [(.int (2 : Int32))])
                refine own_st (fun t_ k_ => XS.iconst X80.here hx rfl (hb hby at_126) k_) ?_
                show own_Go p e below _ T80 (mkF m 127 #[.val (.int ops), .val (.int c0), .val (.int c1), .val (.int flags), .val (.ref nb1), .val (.ref nb4), .val (.int (2 : Int32)), .val (.int (1 : Int32)), .val (.int (1 : Int32)), .val (.int b2), .unset, .unset, .unset, .unset, .unset] [(.int (3 : Int32)), (.int (2 : Int32))])
                refine own_st (fun t_ k_ => XS.icmpYes X80.here hx rfl (pc0 := 127) (pc' := 137) rfl (hb hby at_127) rfl (by decide) (by decide) (by decide) k_) ?_
                show own_Go p e below _ T80 (mkF m 137 #[.val (.int ops), .val (.int c0), .val (.int c1), .val (.int flags), .val (.ref nb1), .val (.ref nb4), .val (.int (2 : Int32)), .val (.int (1 : Int32)), .val (.int (1 : Int32)), .val (.int b2), .unset, .unset, .unset, .unset, .unset] [])
                refine own_st (fun t_ k_ => XS.iload X80.here hx rfl (hb hby at_137) rfl k_) ?_
                show own_Go p e below _ T80 (mkF m 139 #[.val (.int ops), .val (.int c0), .val (.int c1), .val (.int flags), .val (.ref nb1), .val (.ref nb4), .val (.int (2 : Int32)), .val (.int (1 : Int32)), .val (.int (1 : Int32)), .val (.int b2), .unset, .unset, .unset, .unset, .unset] [(.int (2 : Int32))])
                refine own_st (fun t_ k_ => XS.iconst X80.here hx rfl (hb hby at_139) k_) ?_
                show own_Go p e below _ T80 (mkF m 140 #[.val (.int ops), .val (.int c0), .val (.int c1), .val (.int flags), .val (.ref nb1), .val (.ref nb4), .val (.int (2 : Int32)), .val (.int (1 : Int32)), .val (.int (1 : Int32)), .val (.int b2), .unset, .unset, .unset, .unset, .unset] [(.int (1 : Int32)), (.int (2 : Int32))])
                refine own_st (fun t_ k_ => XS.icmpNo X80.here hx rfl (hb hby at_140) rfl (by decide) k_) ?_
                show own_Go p e below _ T80 (mkF m 143 #[.val (.int ops), .val (.int c0), .val (.int c1), .val (.int flags), .val (.ref nb1), .val (.ref nb4), .val (.int (2 : Int32)), .val (.int (1 : Int32)), .val (.int (1 : Int32)), .val (.int b2), .unset, .unset, .unset, .unset, .unset] [])
                refine own_st (fun t_ k_ => XS.iload X80.here hx rfl (hb hby at_143) rfl k_) ?_
                show own_Go p e below _ T80 (mkF m 145 #[.val (.int ops), .val (.int c0), .val (.int c1), .val (.int flags), .val (.ref nb1), .val (.ref nb4), .val (.int (2 : Int32)), .val (.int (1 : Int32)), .val (.int (1 : Int32)), .val (.int b2), .unset, .unset, .unset, .unset, .unset] [(.int (1 : Int32))])
                refine own_st (fun t_ k_ => XS.ifYes X80.here hx rfl (pc0 := 145) (pc' := 170) rfl (hb hby at_145) rfl (by decide) (by decide) (by decide) k_) ?_
                show own_Go p e below _ T80 (mkF m 170 #[.val (.int ops), .val (.int c0), .val (.int c1), .val (.int flags), .val (.ref nb1), .val (.ref nb4), .val (.int (2 : Int32)), .val (.int (1 : Int32)), .val (.int (1 : Int32)), .val (.int b2), .unset, .unset, .unset, .unset, .unset] [])
                refine own_st (fun t_ k_ => XS.iconst X80.here hx rfl (hb hby at_170) k_) ?_
                show own_Go p e below _ T80 (mkF m 171 #[.val (.int ops), .val (.int c0), .val (.int c1), .val (.int flags), .val (.ref nb1), .val (.ref nb4), .val (.int (2 : Int32)), .val (.int (1 : Int32)), .val (.int (1 : Int32)), .val (.int b2), .unset, .unset, .unset, .unset, .unset] [(.int (1 : Int32))])
                refine own_st (fun t_ k_ => XS.goto X80.here hx rfl (pc0 := 171) (pc' := 175) rfl (hb hby at_171) (by decide) (by decide) k_) ?_
                show own_Go p e below _ T80 (mkF m 175 #[.val (.int ops), .val (.int c0), .val (.int c1), .val (.int flags), .val (.ref nb1), .val (.ref nb4), .val (.int (2 : Int32)), .val (.int (1 : Int32)), .val (.int (1 : Int32)), .val (.int b2), .unset, .unset, .unset, .unset, .unset] [(.int (1 : Int32))])
                refine own_st (fun t_ k_ => XS.istore X80.here hx rfl (hb hby at_175) rfl (l' := #[.val (.int ops), .val (.int c0), .val (.int c1), .val (.int flags), .val (.ref nb1), .val (.ref nb4), .val (.int (2 : Int32)), .val (.int (1 : Int32)), .val (.int (1 : Int32)), .val (.int b2), .val (.int (1 : Int32)), .unset, .unset, .unset, .unset]) rfl k_) ?_
                show own_Go p e below _ T80 (mkF m 177 #[.val (.int ops), .val (.int c0), .val (.int c1), .val (.int flags), .val (.ref nb1), .val (.ref nb4), .val (.int (2 : Int32)), .val (.int (1 : Int32)), .val (.int (1 : Int32)), .val (.int b2), .val (.int (1 : Int32)), .unset, .unset, .unset, .unset] [])
                refine own_st (fun t_ k_ => XS.iload X80.here hx rfl (hb hby at_177) rfl k_) ?_
                show own_Go p e below _ T80 (mkF m 179 #[.val (.int ops), .val (.int c0), .val (.int c1), .val (.int flags), .val (.ref nb1), .val (.ref nb4), .val (.int (2 : Int32)), .val (.int (1 : Int32)), .val (.int (1 : Int32)), .val (.int b2), .val (.int (1 : Int32)), .unset, .unset, .unset, .unset] [(.int (2 : Int32))])
                refine own_st (fun t_ k_ => XS.iconst X80.here hx rfl (hb hby at_179) k_) ?_
                show own_Go p e below _ T80 (mkF m 180 #[.val (.int ops), .val (.int c0), .val (.int c1), .val (.int flags), .val (.ref nb1), .val (.ref nb4), .val (.int (2 : Int32)), .val (.int (1 : Int32)), .val (.int (1 : Int32)), .val (.int b2), .val (.int (1 : Int32)), .unset, .unset, .unset, .unset] [(.int (1 : Int32)), (.int (2 : Int32))])
                refine own_st (fun t_ k_ => XS.icmpNo X80.here hx rfl (hb hby at_180) rfl (by decide) k_) ?_
                show own_Go p e below _ T80 (mkF m 183 #[.val (.int ops), .val (.int c0), .val (.int c1), .val (.int flags), .val (.ref nb1), .val (.ref nb4), .val (.int (2 : Int32)), .val (.int (1 : Int32)), .val (.int (1 : Int32)), .val (.int b2), .val (.int (1 : Int32)), .unset, .unset, .unset, .unset] [])
                refine own_st (fun t_ k_ => XS.iload X80.here hx rfl (hb hby at_183) rfl k_) ?_
                show own_Go p e below _ T80 (mkF m 185 #[.val (.int ops), .val (.int c0), .val (.int c1), .val (.int flags), .val (.ref nb1), .val (.ref nb4), .val (.int (2 : Int32)), .val (.int (1 : Int32)), .val (.int (1 : Int32)), .val (.int b2), .val (.int (1 : Int32)), .unset, .unset, .unset, .unset] [(.int (1 : Int32))])
                refine own_st (fun t_ k_ => XS.ifNo X80.here hx rfl (hb hby at_185) rfl (by decide) k_) ?_
                show own_Go p e below _ T80 (mkF m 188 #[.val (.int ops), .val (.int c0), .val (.int c1), .val (.int flags), .val (.ref nb1), .val (.ref nb4), .val (.int (2 : Int32)), .val (.int (1 : Int32)), .val (.int (1 : Int32)), .val (.int b2), .val (.int (1 : Int32)), .unset, .unset, .unset, .unset] [])
                refine own_st (fun t_ k_ => XS.iload X80.here hx rfl (hb hby at_188) rfl k_) ?_
                show own_Go p e below _ T80 (mkF m 190 #[.val (.int ops), .val (.int c0), .val (.int c1), .val (.int flags), .val (.ref nb1), .val (.ref nb4), .val (.int (2 : Int32)), .val (.int (1 : Int32)), .val (.int (1 : Int32)), .val (.int b2), .val (.int (1 : Int32)), .unset, .unset, .unset, .unset] [(.int (2 : Int32))])
                refine own_st (fun t_ k_ => XS.iconst X80.here hx rfl (hb hby at_190) k_) ?_
                show own_Go p e below _ T80 (mkF m 191 #[.val (.int ops), .val (.int c0), .val (.int c1), .val (.int flags), .val (.ref nb1), .val (.ref nb4), .val (.int (2 : Int32)), .val (.int (1 : Int32)), .val (.int (1 : Int32)), .val (.int b2), .val (.int (1 : Int32)), .unset, .unset, .unset, .unset] [(.int (2 : Int32)), (.int (2 : Int32))])
                refine own_st (fun t_ k_ => XS.icmpNo X80.here hx rfl (hb hby at_191) rfl (by decide) k_) ?_
                show own_Go p e below _ T80 (mkF m 194 #[.val (.int ops), .val (.int c0), .val (.int c1), .val (.int flags), .val (.ref nb1), .val (.ref nb4), .val (.int (2 : Int32)), .val (.int (1 : Int32)), .val (.int (1 : Int32)), .val (.int b2), .val (.int (1 : Int32)), .unset, .unset, .unset, .unset] [])
                refine own_st (fun t_ k_ => XS.iload X80.here hx rfl (hb hby at_194) rfl k_) ?_
                show own_Go p e below _ T80 (mkF m 196 #[.val (.int ops), .val (.int c0), .val (.int c1), .val (.int flags), .val (.ref nb1), .val (.ref nb4), .val (.int (2 : Int32)), .val (.int (1 : Int32)), .val (.int (1 : Int32)), .val (.int b2), .val (.int (1 : Int32)), .unset, .unset, .unset, .unset] [(.int (1 : Int32))])
                refine own_st (fun t_ k_ => XS.ifNo X80.here hx rfl (hb hby at_196) rfl (by decide) k_) ?_
                show own_Go p e below _ T80 (mkF m 199 #[.val (.int ops), .val (.int c0), .val (.int c1), .val (.int flags), .val (.ref nb1), .val (.ref nb4), .val (.int (2 : Int32)), .val (.int (1 : Int32)), .val (.int (1 : Int32)), .val (.int b2), .val (.int (1 : Int32)), .unset, .unset, .unset, .unset] [])
                refine own_st (fun t_ k_ => XS.iload X80.here hx rfl (hb hby at_199) rfl k_) ?_
                show own_Go p e below _ T80 (mkF m 201 #[.val (.int ops), .val (.int c0), .val (.int c1), .val (.int flags), .val (.ref nb1), .val (.ref nb4), .val (.int (2 : Int32)), .val (.int (1 : Int32)), .val (.int (1 : Int32)), .val (.int b2), .val (.int (1 : Int32)), .unset, .unset, .unset, .unset] [(.int (2 : Int32))])
                refine own_st (fun t_ k_ => XS.iconst X80.here hx rfl (hb hby at_201) k_) ?_
                show own_Go p e below _ T80 (mkF m 202 #[.val (.int ops), .val (.int c0), .val (.int c1), .val (.int flags), .val (.ref nb1), .val (.ref nb4), .val (.int (2 : Int32)), .val (.int (1 : Int32)), .val (.int (1 : Int32)), .val (.int b2), .val (.int (1 : Int32)), .unset, .unset, .unset, .unset] [(.int (3 : Int32)), (.int (2 : Int32))])
                refine own_st (fun t_ k_ => XS.icmpYes X80.here hx rfl (pc0 := 202) (pc' := 214) rfl (hb hby at_202) rfl (by decide) (by decide) (by decide) k_) ?_
                show own_Go p e below _ T80 (mkF m 214 #[.val (.int ops), .val (.int c0), .val (.int c1), .val (.int flags), .val (.ref nb1), .val (.ref nb4), .val (.int (2 : Int32)), .val (.int (1 : Int32)), .val (.int (1 : Int32)), .val (.int b2), .val (.int (1 : Int32)), .unset, .unset, .unset, .unset] [])
                refine own_st (fun t_ k_ => XS.iconst X80.here hx rfl (hb hby at_214) k_) ?_
                show own_Go p e below _ T80 (mkF m 215 #[.val (.int ops), .val (.int c0), .val (.int c1), .val (.int flags), .val (.ref nb1), .val (.ref nb4), .val (.int (2 : Int32)), .val (.int (1 : Int32)), .val (.int (1 : Int32)), .val (.int b2), .val (.int (1 : Int32)), .unset, .unset, .unset, .unset] [(.int (0 : Int32))])
                refine own_st (fun t_ k_ => XS.istore X80.here hx rfl (hb hby at_215) rfl (l' := #[.val (.int ops), .val (.int c0), .val (.int c1), .val (.int flags), .val (.ref nb1), .val (.ref nb4), .val (.int (2 : Int32)), .val (.int (1 : Int32)), .val (.int (1 : Int32)), .val (.int b2), .val (.int (1 : Int32)), .val (.int (0 : Int32)), .unset, .unset, .unset]) rfl k_) ?_
                show own_Go p e below _ T80 (mkF m 217 #[.val (.int ops), .val (.int c0), .val (.int c1), .val (.int flags), .val (.ref nb1), .val (.ref nb4), .val (.int (2 : Int32)), .val (.int (1 : Int32)), .val (.int (1 : Int32)), .val (.int b2), .val (.int (1 : Int32)), .val (.int (0 : Int32)), .unset, .unset, .unset] [])
                refine own_st (fun t_ k_ => XS.aload X80.here hx rfl (hb hby at_217) rfl rfl k_) ?_
                show own_Go p e below _ T80 (mkF m 219 #[.val (.int ops), .val (.int c0), .val (.int c1), .val (.int flags), .val (.ref nb1), .val (.ref nb4), .val (.int (2 : Int32)), .val (.int (1 : Int32)), .val (.int (1 : Int32)), .val (.int b2), .val (.int (1 : Int32)), .val (.int (0 : Int32)), .unset, .unset, .unset] [(.ref nb4)])
                refine own_st (fun t_ k_ => XS.iconst X80.here hx rfl (hb hby at_219) k_) ?_
                show own_Go p e below _ T80 (mkF m 220 #[.val (.int ops), .val (.int c0), .val (.int c1), .val (.int flags), .val (.ref nb1), .val (.ref nb4), .val (.int (2 : Int32)), .val (.int (1 : Int32)), .val (.int (1 : Int32)), .val (.int b2), .val (.int (1 : Int32)), .val (.int (0 : Int32)), .unset, .unset, .unset] [(.int (1 : Int32)), (.ref nb4)])
                obtain ⟨cq83, kq83, q83a, q83b, q83c⟩ := isOf hZ rfl Eq80
                refine own_callV X80 hx (y := (⟨"com/example/kapu/kapu/service/Coverage$Part", "isCovered", "(Z)Z"⟩ : MethodName)) (z := (⟨"com/example/kapu/kapu/service/Coverage$Part", "isCovered", "(Z)Z"⟩ : MethodName)) hown (mvT hZ (hw _ (List.mem_of_getElem? (i := 41) rfl))) (mvT hZ (hw _ (List.mem_of_getElem? (i := 42) rfl))) (notFace_of_selects (args := #[]) (mvT hZ (hw _ (List.mem_of_getElem? (i := 44) rfl)))) (mvT hZ (hw _ (List.mem_of_getElem? (i := 44) rfl))) (mvT hZ (hw _ (List.mem_of_getElem? (i := 43) rfl))) (by decide) (backOf (W := 0) (rmV1 l Z a0 hw [] nb4 (1 : Int32) T80.heap n0 (Nat.le_trans Z0 K80.1) Fq80_2 rfl) hZ (hw _ (List.mem_of_getElem? (i := 45) rfl)) (hw _ (List.mem_of_getElem? (i := 3) rfl)) (by decide) (by decide)) q83a q83c (g := (mkF m 220 #[.val (.int ops), .val (.int c0), .val (.int c1), .val (.int flags), .val (.ref nb1), .val (.ref nb4), .val (.int (2 : Int32)), .val (.int (1 : Int32)), .val (.int (1 : Int32)), .val (.int b2), .val (.int (1 : Int32)), .val (.int (0 : Int32)), .unset, .unset, .unset] [(.int (1 : Int32)), (.ref nb4)])) rfl (by rw [hml]; rfl) (argsL := [(.int (1 : Int32))]) (rest := []) (lenOf pd_2 rfl) rfl (by show 2 * 0 + _ ≤ _; exact Nat.le_of_eq rfl) (hb hby at_220) rfl rfl (by decide) (by decide) ?_
                rintro v82 T82 L82 X82 ⟨rfl, Nq82, hh82⟩
                have N82 := Fr.app N80 Nq82
                show own_Go p e below _ T82 (mkF m 223 #[.val (.int ops), .val (.int c0), .val (.int c1), .val (.int flags), .val (.ref nb1), .val (.ref nb4), .val (.int (2 : Int32)), .val (.int (1 : Int32)), .val (.int (1 : Int32)), .val (.int b2), .val (.int (1 : Int32)), .val (.int (0 : Int32)), .unset, .unset, .unset] [(.int (1 : Int32))])
                refine own_st (fun t_ k_ => XS.istore X82.here hx rfl (hb hby at_223) rfl (l' := #[.val (.int ops), .val (.int c0), .val (.int c1), .val (.int flags), .val (.ref nb1), .val (.ref nb4), .val (.int (2 : Int32)), .val (.int (1 : Int32)), .val (.int (1 : Int32)), .val (.int b2), .val (.int (1 : Int32)), .val (.int (0 : Int32)), .val (.int (1 : Int32)), .unset, .unset]) rfl k_) ?_
                show own_Go p e below _ T82 (mkF m 225 #[.val (.int ops), .val (.int c0), .val (.int c1), .val (.int flags), .val (.ref nb1), .val (.ref nb4), .val (.int (2 : Int32)), .val (.int (1 : Int32)), .val (.int (1 : Int32)), .val (.int b2), .val (.int (1 : Int32)), .val (.int (0 : Int32)), .val (.int (1 : Int32)), .unset, .unset] [])
                refine own_st (fun t_ k_ => XS.aload X82.here hx rfl (hb hby at_225) rfl rfl k_) ?_
                show own_Go p e below _ T82 (mkF m 227 #[.val (.int ops), .val (.int c0), .val (.int c1), .val (.int flags), .val (.ref nb1), .val (.ref nb4), .val (.int (2 : Int32)), .val (.int (1 : Int32)), .val (.int (1 : Int32)), .val (.int b2), .val (.int (1 : Int32)), .val (.int (0 : Int32)), .val (.int (1 : Int32)), .unset, .unset] [(.ref nb4)])
                refine own_st (fun t_ k_ => XS.iconst X82.here hx rfl (hb hby at_227) k_) ?_
                show own_Go p e below _ T82 (mkF m 228 #[.val (.int ops), .val (.int c0), .val (.int c1), .val (.int flags), .val (.ref nb1), .val (.ref nb4), .val (.int (2 : Int32)), .val (.int (1 : Int32)), .val (.int (1 : Int32)), .val (.int b2), .val (.int (1 : Int32)), .val (.int (0 : Int32)), .val (.int (1 : Int32)), .unset, .unset] [(.int (0 : Int32)), (.ref nb4)])
                obtain ⟨cq85, kq85, q85a, q85b, q85c⟩ := isOf hZ hh82 Eq80
                refine own_callV X82 hx (y := (⟨"com/example/kapu/kapu/service/Coverage$Part", "isCovered", "(Z)Z"⟩ : MethodName)) (z := (⟨"com/example/kapu/kapu/service/Coverage$Part", "isCovered", "(Z)Z"⟩ : MethodName)) hown (mvT hZ (hw _ (List.mem_of_getElem? (i := 41) rfl))) (mvT hZ (hw _ (List.mem_of_getElem? (i := 42) rfl))) (notFace_of_selects (args := #[]) (mvT hZ (hw _ (List.mem_of_getElem? (i := 44) rfl)))) (mvT hZ (hw _ (List.mem_of_getElem? (i := 44) rfl))) (mvT hZ (hw _ (List.mem_of_getElem? (i := 43) rfl))) (by decide) (backOf (W := 0) (rmV0 l Z a0 hw [] nb4 (0 : Int32) T80.heap n0 (Nat.le_trans Z0 K80.1) Fq80_3 rfl) hZ (hw _ (List.mem_of_getElem? (i := 45) rfl)) (hw _ (List.mem_of_getElem? (i := 3) rfl)) (by decide) (by decide)) q85a q85c (g := (mkF m 228 #[.val (.int ops), .val (.int c0), .val (.int c1), .val (.int flags), .val (.ref nb1), .val (.ref nb4), .val (.int (2 : Int32)), .val (.int (1 : Int32)), .val (.int (1 : Int32)), .val (.int b2), .val (.int (1 : Int32)), .val (.int (0 : Int32)), .val (.int (1 : Int32)), .unset, .unset] [(.int (0 : Int32)), (.ref nb4)])) rfl (by rw [hml]; rfl) (argsL := [(.int (0 : Int32))]) (rest := []) (lenOf pd_2 rfl) rfl (by show 2 * 0 + _ ≤ _; exact Nat.le_of_eq rfl) (hb hby at_228) rfl hh82 (by decide) (by decide) ?_
                rintro v84 T84 L84 X84 ⟨rfl, Nq84, hh84⟩
                have N84 := Fr.app N82 Nq84
                show own_Go p e below _ T84 (mkF m 231 #[.val (.int ops), .val (.int c0), .val (.int c1), .val (.int flags), .val (.ref nb1), .val (.ref nb4), .val (.int (2 : Int32)), .val (.int (1 : Int32)), .val (.int (1 : Int32)), .val (.int b2), .val (.int (1 : Int32)), .val (.int (0 : Int32)), .val (.int (1 : Int32)), .unset, .unset] [(.int (0 : Int32))])
                refine own_st (fun t_ k_ => XS.istore X84.here hx rfl (hb hby at_231) rfl (l' := #[.val (.int ops), .val (.int c0), .val (.int c1), .val (.int flags), .val (.ref nb1), .val (.ref nb4), .val (.int (2 : Int32)), .val (.int (1 : Int32)), .val (.int (1 : Int32)), .val (.int b2), .val (.int (1 : Int32)), .val (.int (0 : Int32)), .val (.int (1 : Int32)), .val (.int (0 : Int32)), .unset]) rfl k_) ?_
                show own_Go p e below _ T84 (mkF m 233 #[.val (.int ops), .val (.int c0), .val (.int c1), .val (.int flags), .val (.ref nb1), .val (.ref nb4), .val (.int (2 : Int32)), .val (.int (1 : Int32)), .val (.int (1 : Int32)), .val (.int b2), .val (.int (1 : Int32)), .val (.int (0 : Int32)), .val (.int (1 : Int32)), .val (.int (0 : Int32)), .unset] [])
                refine own_st (fun t_ k_ => XS.aload X84.here hx rfl (hb hby at_233) rfl rfl k_) ?_
                show own_Go p e below _ T84 (mkF m 235 #[.val (.int ops), .val (.int c0), .val (.int c1), .val (.int flags), .val (.ref nb1), .val (.ref nb4), .val (.int (2 : Int32)), .val (.int (1 : Int32)), .val (.int (1 : Int32)), .val (.int b2), .val (.int (1 : Int32)), .val (.int (0 : Int32)), .val (.int (1 : Int32)), .val (.int (0 : Int32)), .unset] [(.ref nb4)])
                refine own_st (fun t_ k_ => XS.iconst X84.here hx rfl (hb hby at_235) k_) ?_
                show own_Go p e below _ T84 (mkF m 236 #[.val (.int ops), .val (.int c0), .val (.int c1), .val (.int flags), .val (.ref nb1), .val (.ref nb4), .val (.int (2 : Int32)), .val (.int (1 : Int32)), .val (.int (1 : Int32)), .val (.int b2), .val (.int (1 : Int32)), .val (.int (0 : Int32)), .val (.int (1 : Int32)), .val (.int (0 : Int32)), .unset] [(.int (1 : Int32)), (.ref nb4)])
                obtain ⟨cq87, kq87, q87a, q87b, q87c⟩ := isOf hZ hh84 Eq80
                refine own_callV X84 hx (y := (⟨"com/example/kapu/kapu/service/Coverage$Part", "isCovered", "(Z)Z"⟩ : MethodName)) (z := (⟨"com/example/kapu/kapu/service/Coverage$Part", "isCovered", "(Z)Z"⟩ : MethodName)) hown (mvT hZ (hw _ (List.mem_of_getElem? (i := 41) rfl))) (mvT hZ (hw _ (List.mem_of_getElem? (i := 42) rfl))) (notFace_of_selects (args := #[]) (mvT hZ (hw _ (List.mem_of_getElem? (i := 44) rfl)))) (mvT hZ (hw _ (List.mem_of_getElem? (i := 44) rfl))) (mvT hZ (hw _ (List.mem_of_getElem? (i := 43) rfl))) (by decide) (backOf (W := 0) (rmV1 l Z a0 hw [] nb4 (1 : Int32) T80.heap n0 (Nat.le_trans Z0 K80.1) Fq80_2 rfl) hZ (hw _ (List.mem_of_getElem? (i := 45) rfl)) (hw _ (List.mem_of_getElem? (i := 3) rfl)) (by decide) (by decide)) q87a q87c (g := (mkF m 236 #[.val (.int ops), .val (.int c0), .val (.int c1), .val (.int flags), .val (.ref nb1), .val (.ref nb4), .val (.int (2 : Int32)), .val (.int (1 : Int32)), .val (.int (1 : Int32)), .val (.int b2), .val (.int (1 : Int32)), .val (.int (0 : Int32)), .val (.int (1 : Int32)), .val (.int (0 : Int32)), .unset] [(.int (1 : Int32)), (.ref nb4)])) rfl (by rw [hml]; rfl) (argsL := [(.int (1 : Int32))]) (rest := []) (lenOf pd_2 rfl) rfl (by show 2 * 0 + _ ≤ _; exact Nat.le_of_eq rfl) (hb hby at_236) rfl hh84 (by decide) (by decide) ?_
                rintro v86 T86 L86 X86 ⟨rfl, Nq86, hh86⟩
                have N86 := Fr.app N84 Nq86
                show own_Go p e below _ T86 (mkF m 239 #[.val (.int ops), .val (.int c0), .val (.int c1), .val (.int flags), .val (.ref nb1), .val (.ref nb4), .val (.int (2 : Int32)), .val (.int (1 : Int32)), .val (.int (1 : Int32)), .val (.int b2), .val (.int (1 : Int32)), .val (.int (0 : Int32)), .val (.int (1 : Int32)), .val (.int (0 : Int32)), .unset] [(.int (1 : Int32))])
                refine own_st (fun t_ k_ => XS.istore X86.here hx rfl (hb hby at_239) rfl (l' := #[.val (.int ops), .val (.int c0), .val (.int c1), .val (.int flags), .val (.ref nb1), .val (.ref nb4), .val (.int (2 : Int32)), .val (.int (1 : Int32)), .val (.int (1 : Int32)), .val (.int b2), .val (.int (1 : Int32)), .val (.int (0 : Int32)), .val (.int (1 : Int32)), .val (.int (0 : Int32)), .val (.int (1 : Int32))]) rfl k_) ?_
                show own_Go p e below _ T86 (mkF m 241 #[.val (.int ops), .val (.int c0), .val (.int c1), .val (.int flags), .val (.ref nb1), .val (.ref nb4), .val (.int (2 : Int32)), .val (.int (1 : Int32)), .val (.int (1 : Int32)), .val (.int b2), .val (.int (1 : Int32)), .val (.int (0 : Int32)), .val (.int (1 : Int32)), .val (.int (0 : Int32)), .val (.int (1 : Int32))] [])
                refine own_st (fun t_ k_ => XS.iload X86.here hx rfl (hb hby at_241) rfl k_) ?_
                show own_Go p e below _ T86 (mkF m 243 #[.val (.int ops), .val (.int c0), .val (.int c1), .val (.int flags), .val (.ref nb1), .val (.ref nb4), .val (.int (2 : Int32)), .val (.int (1 : Int32)), .val (.int (1 : Int32)), .val (.int b2), .val (.int (1 : Int32)), .val (.int (0 : Int32)), .val (.int (1 : Int32)), .val (.int (0 : Int32)), .val (.int (1 : Int32))] [(.int (1 : Int32))])
                refine own_st (fun t_ k_ => XS.iload X86.here hx rfl (hb hby at_243) rfl k_) ?_
                show own_Go p e below _ T86 (mkF m 245 #[.val (.int ops), .val (.int c0), .val (.int c1), .val (.int flags), .val (.ref nb1), .val (.ref nb4), .val (.int (2 : Int32)), .val (.int (1 : Int32)), .val (.int (1 : Int32)), .val (.int b2), .val (.int (1 : Int32)), .val (.int (0 : Int32)), .val (.int (1 : Int32)), .val (.int (0 : Int32)), .val (.int (1 : Int32))] [(.int (1 : Int32)), (.int (1 : Int32))])
                refine own_st (fun t_ k_ => XS.icmpNo X86.here hx rfl (hb hby at_245) rfl (by decide) k_) ?_
                show own_Go p e below _ T86 (mkF m 248 #[.val (.int ops), .val (.int c0), .val (.int c1), .val (.int flags), .val (.ref nb1), .val (.ref nb4), .val (.int (2 : Int32)), .val (.int (1 : Int32)), .val (.int (1 : Int32)), .val (.int b2), .val (.int (1 : Int32)), .val (.int (0 : Int32)), .val (.int (1 : Int32)), .val (.int (0 : Int32)), .val (.int (1 : Int32))] [])
                refine own_st (fun t_ k_ => XS.iload X86.here hx rfl (hb hby at_248) rfl k_) ?_
                show own_Go p e below _ T86 (mkF m 250 #[.val (.int ops), .val (.int c0), .val (.int c1), .val (.int flags), .val (.ref nb1), .val (.ref nb4), .val (.int (2 : Int32)), .val (.int (1 : Int32)), .val (.int (1 : Int32)), .val (.int b2), .val (.int (1 : Int32)), .val (.int (0 : Int32)), .val (.int (1 : Int32)), .val (.int (0 : Int32)), .val (.int (1 : Int32))] [(.int (0 : Int32))])
                refine own_st (fun t_ k_ => XS.iload X86.here hx rfl (hb hby at_250) rfl k_) ?_
                show own_Go p e below _ T86 (mkF m 252 #[.val (.int ops), .val (.int c0), .val (.int c1), .val (.int flags), .val (.ref nb1), .val (.ref nb4), .val (.int (2 : Int32)), .val (.int (1 : Int32)), .val (.int (1 : Int32)), .val (.int b2), .val (.int (1 : Int32)), .val (.int (0 : Int32)), .val (.int (1 : Int32)), .val (.int (0 : Int32)), .val (.int (1 : Int32))] [(.int (0 : Int32)), (.int (0 : Int32))])
                refine own_st (fun t_ k_ => XS.icmpNo X86.here hx rfl (hb hby at_252) rfl (by decide) k_) ?_
                show own_Go p e below _ T86 (mkF m 255 #[.val (.int ops), .val (.int c0), .val (.int c1), .val (.int flags), .val (.ref nb1), .val (.ref nb4), .val (.int (2 : Int32)), .val (.int (1 : Int32)), .val (.int (1 : Int32)), .val (.int b2), .val (.int (1 : Int32)), .val (.int (0 : Int32)), .val (.int (1 : Int32)), .val (.int (0 : Int32)), .val (.int (1 : Int32))] [])
                refine own_st (fun t_ k_ => XS.iload X86.here hx rfl (hb hby at_255) rfl k_) ?_
                show own_Go p e below _ T86 (mkF m 257 #[.val (.int ops), .val (.int c0), .val (.int c1), .val (.int flags), .val (.ref nb1), .val (.ref nb4), .val (.int (2 : Int32)), .val (.int (1 : Int32)), .val (.int (1 : Int32)), .val (.int b2), .val (.int (1 : Int32)), .val (.int (0 : Int32)), .val (.int (1 : Int32)), .val (.int (0 : Int32)), .val (.int (1 : Int32))] [(.int (1 : Int32))])
                refine own_st (fun t_ k_ => XS.iload X86.here hx rfl (hb hby at_257) rfl k_) ?_
                show own_Go p e below _ T86 (mkF m 259 #[.val (.int ops), .val (.int c0), .val (.int c1), .val (.int flags), .val (.ref nb1), .val (.ref nb4), .val (.int (2 : Int32)), .val (.int (1 : Int32)), .val (.int (1 : Int32)), .val (.int b2), .val (.int (1 : Int32)), .val (.int (0 : Int32)), .val (.int (1 : Int32)), .val (.int (0 : Int32)), .val (.int (1 : Int32))] [(.int (1 : Int32)), (.int (1 : Int32))])
                refine own_st (fun t_ k_ => XS.icmpNo X86.here hx rfl (hb hby at_259) rfl (by decide) k_) ?_
                show own_Go p e below _ T86 (mkF m 262 #[.val (.int ops), .val (.int c0), .val (.int c1), .val (.int flags), .val (.ref nb1), .val (.ref nb4), .val (.int (2 : Int32)), .val (.int (1 : Int32)), .val (.int (1 : Int32)), .val (.int b2), .val (.int (1 : Int32)), .val (.int (0 : Int32)), .val (.int (1 : Int32)), .val (.int (0 : Int32)), .val (.int (1 : Int32))] [])
                refine own_st (fun t_ k_ => XS.iconst X86.here hx rfl (hb hby at_262) k_) ?_
                show own_Go p e below _ T86 (mkF m 263 #[.val (.int ops), .val (.int c0), .val (.int c1), .val (.int flags), .val (.ref nb1), .val (.ref nb4), .val (.int (2 : Int32)), .val (.int (1 : Int32)), .val (.int (1 : Int32)), .val (.int b2), .val (.int (1 : Int32)), .val (.int (0 : Int32)), .val (.int (1 : Int32)), .val (.int (0 : Int32)), .val (.int (1 : Int32))] [(.int (1 : Int32))])
                refine own_st (fun t_ k_ => XS.goto X86.here hx rfl (pc0 := 263) (pc' := 267) rfl (hb hby at_263) (by decide) (by decide) k_) ?_
                show own_Go p e below _ T86 (mkF m 267 #[.val (.int ops), .val (.int c0), .val (.int c1), .val (.int flags), .val (.ref nb1), .val (.ref nb4), .val (.int (2 : Int32)), .val (.int (1 : Int32)), .val (.int (1 : Int32)), .val (.int b2), .val (.int (1 : Int32)), .val (.int (0 : Int32)), .val (.int (1 : Int32)), .val (.int (0 : Int32)), .val (.int (1 : Int32))] [(.int (1 : Int32))])
                refine own_retN X86 hx hlk (t := .boolean) Bd.returns (by simp) (hb hby at_267) ?_ (by decide) (by decide)
                show Q0 n0 _ T86.heap _
                rw [hh86]
                exact ⟨rfl, N86⟩
          · show own_Go p e below _ T26 (mkF m 98 #[.val (.int ops), .val (.int c0), .val (.int c1), .val (.int flags), .val (.ref nb1), .val (.ref nb4), .val (.int (3 : Int32)), .val (.int b0), .val (.int b1), .val (.int b2), .unset, .unset, .unset, .unset, .unset] [])
            refine own_st (fun t_ k_ => XS.iload X26.here hx rfl (hb hby at_98) rfl k_) ?_
            show own_Go p e below _ T26 (mkF m 100 #[.val (.int ops), .val (.int c0), .val (.int c1), .val (.int flags), .val (.ref nb1), .val (.ref nb4), .val (.int (3 : Int32)), .val (.int b0), .val (.int b1), .val (.int b2), .unset, .unset, .unset, .unset, .unset] [(.int (3 : Int32))])
            refine own_st (fun t_ k_ => XS.iconst X26.here hx rfl (hb hby at_100) k_) ?_
            show own_Go p e below _ T26 (mkF m 101 #[.val (.int ops), .val (.int c0), .val (.int c1), .val (.int flags), .val (.ref nb1), .val (.ref nb4), .val (.int (3 : Int32)), .val (.int b0), .val (.int b1), .val (.int b2), .unset, .unset, .unset, .unset, .unset] [(.int (1 : Int32)), (.int (3 : Int32))])
            refine own_st (fun t_ k_ => XS.icmpNo X26.here hx rfl (hb hby at_101) rfl (by decide) k_) ?_
            show own_Go p e below _ T26 (mkF m 104 #[.val (.int ops), .val (.int c0), .val (.int c1), .val (.int flags), .val (.ref nb1), .val (.ref nb4), .val (.int (3 : Int32)), .val (.int b0), .val (.int b1), .val (.int b2), .unset, .unset, .unset, .unset, .unset] [])
            refine own_st (fun t_ k_ => XS.aload X26.here hx rfl (hb hby at_104) rfl rfl k_) ?_
            show own_Go p e below _ T26 (mkF m 106 #[.val (.int ops), .val (.int c0), .val (.int c1), .val (.int flags), .val (.ref nb1), .val (.ref nb4), .val (.int (3 : Int32)), .val (.int b0), .val (.int b1), .val (.int b2), .unset, .unset, .unset, .unset, .unset] [(.ref nb4)])
            refine own_st (fun t_ k_ => XS.iload X26.here hx rfl (hb hby at_106) rfl k_) ?_
            show own_Go p e below _ T26 (mkF m 108 #[.val (.int ops), .val (.int c0), .val (.int c1), .val (.int flags), .val (.ref nb1), .val (.ref nb4), .val (.int (3 : Int32)), .val (.int b0), .val (.int b1), .val (.int b2), .unset, .unset, .unset, .unset, .unset] [(.int b0), (.ref nb4)])
            rcases (h_b0 : b0 = (0 : Int32) ∨ b0 = (1 : Int32)) with rfl | rfl
            · show own_Go p e below _ T26 (mkF m 108 #[.val (.int ops), .val (.int c0), .val (.int c1), .val (.int flags), .val (.ref nb1), .val (.ref nb4), .val (.int (3 : Int32)), .val (.int (0 : Int32)), .val (.int b1), .val (.int b2), .unset, .unset, .unset, .unset, .unset] [(.int (0 : Int32)), (.ref nb4)])
              obtain ⟨cq89, kq89, q89a, q89b, q89c⟩ := isOf hZ rfl Eq26
              refine own_callV X26 hx (y := (⟨"com/example/kapu/kapu/service/Coverage$Part", "cover", "(Z)V"⟩ : MethodName)) (z := (⟨"com/example/kapu/kapu/service/Coverage$Part", "cover", "(Z)V"⟩ : MethodName)) hown (mvT hZ (hw _ (List.mem_of_getElem? (i := 50) rfl))) (mvT hZ (hw _ (List.mem_of_getElem? (i := 51) rfl))) (notFace_of_selects (args := #[]) (mvT hZ (hw _ (List.mem_of_getElem? (i := 53) rfl)))) (mvT hZ (hw _ (List.mem_of_getElem? (i := 53) rfl))) (mvT hZ (hw _ (List.mem_of_getElem? (i := 52) rfl))) (by decide) (backOf (W := 0) (rmC0 l Z a0 hw [] nb4 nb5 bz (0 : Int32) (0 : Int32) T26.heap n0 (Nat.le_trans Z0 K26.1) g_nb4 Eq26 Fq26_0 Fq26_1 Fq26_2 Fq26_3) hZ (hw _ (List.mem_of_getElem? (i := 54) rfl)) (hw _ (List.mem_of_getElem? (i := 3) rfl)) (by decide) (by decide)) q89a q89c (g := (mkF m 108 #[.val (.int ops), .val (.int c0), .val (.int c1), .val (.int flags), .val (.ref nb1), .val (.ref nb4), .val (.int (3 : Int32)), .val (.int (0 : Int32)), .val (.int b1), .val (.int b2), .unset, .unset, .unset, .unset, .unset] [(.int (0 : Int32)), (.ref nb4)])) rfl (by rw [hml]; rfl) (argsL := [(.int (0 : Int32))]) (rest := []) (lenOf pd_3 rfl) rfl (by show 2 * 0 + _ ≤ _; exact Nat.le_of_eq rfl) (hb hby at_108) rfl rfl (by decide) (by decide) ?_
              rintro v88 T88 L88 X88 ⟨rfl, Nq88, Kq88, Eq88, Fq88_0, Fq88_1, Fq88_2, Fq88_3⟩
              have N88 := Fr.app N26 Nq88
              have K88 : Keep h0 T88.heap [] := K26.trans Kq88 (allS (Or.inr sz_nb4) all0)
              show own_Go p e below _ T88 (mkF m 111 #[.val (.int ops), .val (.int c0), .val (.int c1), .val (.int flags), .val (.ref nb1), .val (.ref nb4), .val (.int (3 : Int32)), .val (.int (0 : Int32)), .val (.int b1), .val (.int b2), .unset, .unset, .unset, .unset, .unset] [])
              refine own_st (fun t_ k_ => XS.iload X88.here hx rfl (hb hby at_111) rfl k_) ?_
              show own_Go p e below _ T88 (mkF m 113 #[.val (.int ops), .val (.int c0), .val (.int c1), .val (.int flags), .val (.ref nb1), .val (.ref nb4), .val (.int (3 : Int32)), .val (.int (0 : Int32)), .val (.int b1), .val (.int b2), .unset, .unset, .unset, .unset, .unset] [(.int (3 : Int32))])
              refine own_st (fun t_ k_ => XS.iconst X88.here hx rfl (hb hby at_113) k_) ?_
              show own_Go p e below _ T88 (mkF m 114 #[.val (.int ops), .val (.int c0), .val (.int c1), .val (.int flags), .val (.ref nb1), .val (.ref nb4), .val (.int (3 : Int32)), .val (.int (0 : Int32)), .val (.int b1), .val (.int b2), .unset, .unset, .unset, .unset, .unset] [(.int (2 : Int32)), (.int (3 : Int32))])
              refine own_st (fun t_ k_ => XS.icmpNo X88.here hx rfl (hb hby at_114) rfl (by decide) k_) ?_
              show own_Go p e below _ T88 (mkF m 117 #[.val (.int ops), .val (.int c0), .val (.int c1), .val (.int flags), .val (.ref nb1), .val (.ref nb4), .val (.int (3 : Int32)), .val (.int (0 : Int32)), .val (.int b1), .val (.int b2), .unset, .unset, .unset, .unset, .unset] [])
              refine own_st (fun t_ k_ => XS.aload X88.here hx rfl (hb hby at_117) rfl rfl k_) ?_
              show own_Go p e below _ T88 (mkF m 119 #[.val (.int ops), .val (.int c0), .val (.int c1), .val (.int flags), .val (.ref nb1), .val (.ref nb4), .val (.int (3 : Int32)), .val (.int (0 : Int32)), .val (.int b1), .val (.int b2), .unset, .unset, .unset, .unset, .unset] [(.ref nb4)])
              refine own_st (fun t_ k_ => XS.iload X88.here hx rfl (hb hby at_119) rfl k_) ?_
              show own_Go p e below _ T88 (mkF m 121 #[.val (.int ops), .val (.int c0), .val (.int c1), .val (.int flags), .val (.ref nb1), .val (.ref nb4), .val (.int (3 : Int32)), .val (.int (0 : Int32)), .val (.int b1), .val (.int b2), .unset, .unset, .unset, .unset, .unset] [(.int b1), (.ref nb4)])
              rcases (h_b1 : b1 = (0 : Int32) ∨ b1 = (1 : Int32)) with rfl | rfl
              · show own_Go p e below _ T88 (mkF m 121 #[.val (.int ops), .val (.int c0), .val (.int c1), .val (.int flags), .val (.ref nb1), .val (.ref nb4), .val (.int (3 : Int32)), .val (.int (0 : Int32)), .val (.int (0 : Int32)), .val (.int b2), .unset, .unset, .unset, .unset, .unset] [(.int (0 : Int32)), (.ref nb4)])
                obtain ⟨cq91, kq91, q91a, q91b, q91c⟩ := isOf hZ rfl Eq88
                refine own_callV X88 hx (y := (⟨"com/example/kapu/kapu/service/Coverage$Part", "cover", "(Z)V"⟩ : MethodName)) (z := (⟨"com/example/kapu/kapu/service/Coverage$Part", "cover", "(Z)V"⟩ : MethodName)) hown (mvT hZ (hw _ (List.mem_of_getElem? (i := 50) rfl))) (mvT hZ (hw _ (List.mem_of_getElem? (i := 51) rfl))) (notFace_of_selects (args := #[]) (mvT hZ (hw _ (List.mem_of_getElem? (i := 53) rfl)))) (mvT hZ (hw _ (List.mem_of_getElem? (i := 53) rfl))) (mvT hZ (hw _ (List.mem_of_getElem? (i := 52) rfl))) (by decide) (backOf (W := 0) (rmC0 l Z a0 hw [] nb4 nb5 bz (0 : Int32) (1 : Int32) T88.heap n0 (Nat.le_trans Z0 K88.1) g_nb4 Eq88 Fq88_0 Fq88_1 Fq88_2 Fq88_3) hZ (hw _ (List.mem_of_getElem? (i := 54) rfl)) (hw _ (List.mem_of_getElem? (i := 3) rfl)) (by decide) (by decide)) q91a q91c (g := (mkF m 121 #[.val (.int ops), .val (.int c0), .val (.int c1), .val (.int flags), .val (.ref nb1), .val (.ref nb4), .val (.int (3 : Int32)), .val (.int (0 : Int32)), .val (.int (0 : Int32)), .val (.int b2), .unset, .unset, .unset, .unset, .unset] [(.int (0 : Int32)), (.ref nb4)])) rfl (by rw [hml]; rfl) (argsL := [(.int (0 : Int32))]) (rest := []) (lenOf pd_3 rfl) rfl (by show 2 * 0 + _ ≤ _; exact Nat.le_of_eq rfl) (hb hby at_121) rfl rfl (by decide) (by decide) ?_
                rintro v90 T90 L90 X90 ⟨rfl, Nq90, Kq90, Eq90, Fq90_0, Fq90_1, Fq90_2, Fq90_3⟩
                have N90 := Fr.app N88 Nq90
                have K90 : Keep h0 T90.heap [] := K88.trans Kq90 (allS (Or.inr sz_nb4) all0)
                show own_Go p e below _ T90 (mkF m 124 #[.val (.int ops), .val (.int c0), .val (.int c1), .val (.int flags), .val (.ref nb1), .val (.ref nb4), .val (.int (3 : Int32)), .val (.int (0 : Int32)), .val (.int (0 : Int32)), .val (.int b2), .unset, .unset, .unset, .unset, .unset] [])
                refine own_st (fun t_ k_ => XS.iload X90.here hx rfl (hb hby at_124) rfl k_) ?_
                show own_Go p e below _ T90 (mkF m 126 #[.val (.int ops), .val (.int c0), .val (.int c1), .val (.int flags), .val (.ref nb1), .val (.ref nb4), .val (.int (3 : Int32)), .val (.int (0 : Int32)), .val (.int (0 : Int32)), .val (.int b2), .unset, .unset, .unset, .unset, .unset] [(.int (3 : Int32))])
                refine own_st (fun t_ k_ => XS.iconst X90.here hx rfl (hb hby at_126) k_) ?_
                show own_Go p e below _ T90 (mkF m 127 #[.val (.int ops), .val (.int c0), .val (.int c1), .val (.int flags), .val (.ref nb1), .val (.ref nb4), .val (.int (3 : Int32)), .val (.int (0 : Int32)), .val (.int (0 : Int32)), .val (.int b2), .unset, .unset, .unset, .unset, .unset] [(.int (3 : Int32)), (.int (3 : Int32))])
                refine own_st (fun t_ k_ => XS.icmpNo X90.here hx rfl (hb hby at_127) rfl (by decide) k_) ?_
                show own_Go p e below _ T90 (mkF m 130 #[.val (.int ops), .val (.int c0), .val (.int c1), .val (.int flags), .val (.ref nb1), .val (.ref nb4), .val (.int (3 : Int32)), .val (.int (0 : Int32)), .val (.int (0 : Int32)), .val (.int b2), .unset, .unset, .unset, .unset, .unset] [])
                refine own_st (fun t_ k_ => XS.aload X90.here hx rfl (hb hby at_130) rfl rfl k_) ?_
                show own_Go p e below _ T90 (mkF m 132 #[.val (.int ops), .val (.int c0), .val (.int c1), .val (.int flags), .val (.ref nb1), .val (.ref nb4), .val (.int (3 : Int32)), .val (.int (0 : Int32)), .val (.int (0 : Int32)), .val (.int b2), .unset, .unset, .unset, .unset, .unset] [(.ref nb4)])
                refine own_st (fun t_ k_ => XS.iload X90.here hx rfl (hb hby at_132) rfl k_) ?_
                show own_Go p e below _ T90 (mkF m 134 #[.val (.int ops), .val (.int c0), .val (.int c1), .val (.int flags), .val (.ref nb1), .val (.ref nb4), .val (.int (3 : Int32)), .val (.int (0 : Int32)), .val (.int (0 : Int32)), .val (.int b2), .unset, .unset, .unset, .unset, .unset] [(.int b2), (.ref nb4)])
                rcases (h_b2 : b2 = (0 : Int32) ∨ b2 = (1 : Int32)) with rfl | rfl
                · show own_Go p e below _ T90 (mkF m 134 #[.val (.int ops), .val (.int c0), .val (.int c1), .val (.int flags), .val (.ref nb1), .val (.ref nb4), .val (.int (3 : Int32)), .val (.int (0 : Int32)), .val (.int (0 : Int32)), .val (.int (0 : Int32)), .unset, .unset, .unset, .unset, .unset] [(.int (0 : Int32)), (.ref nb4)])
                  obtain ⟨cq93, kq93, q93a, q93b, q93c⟩ := isOf hZ rfl Eq90
                  refine own_callV X90 hx (y := (⟨"com/example/kapu/kapu/service/Coverage$Part", "cover", "(Z)V"⟩ : MethodName)) (z := (⟨"com/example/kapu/kapu/service/Coverage$Part", "cover", "(Z)V"⟩ : MethodName)) hown (mvT hZ (hw _ (List.mem_of_getElem? (i := 50) rfl))) (mvT hZ (hw _ (List.mem_of_getElem? (i := 51) rfl))) (notFace_of_selects (args := #[]) (mvT hZ (hw _ (List.mem_of_getElem? (i := 53) rfl)))) (mvT hZ (hw _ (List.mem_of_getElem? (i := 53) rfl))) (mvT hZ (hw _ (List.mem_of_getElem? (i := 52) rfl))) (by decide) (backOf (W := 0) (rmC0 l Z a0 hw [] nb4 nb5 bz (0 : Int32) (1 : Int32) T90.heap n0 (Nat.le_trans Z0 K90.1) g_nb4 Eq90 Fq90_0 Fq90_1 Fq90_2 Fq90_3) hZ (hw _ (List.mem_of_getElem? (i := 54) rfl)) (hw _ (List.mem_of_getElem? (i := 3) rfl)) (by decide) (by decide)) q93a q93c (g := (mkF m 134 #[.val (.int ops), .val (.int c0), .val (.int c1), .val (.int flags), .val (.ref nb1), .val (.ref nb4), .val (.int (3 : Int32)), .val (.int (0 : Int32)), .val (.int (0 : Int32)), .val (.int (0 : Int32)), .unset, .unset, .unset, .unset, .unset] [(.int (0 : Int32)), (.ref nb4)])) rfl (by rw [hml]; rfl) (argsL := [(.int (0 : Int32))]) (rest := []) (lenOf pd_3 rfl) rfl (by show 2 * 0 + _ ≤ _; exact Nat.le_of_eq rfl) (hb hby at_134) rfl rfl (by decide) (by decide) ?_
                  rintro v92 T92 L92 X92 ⟨rfl, Nq92, Kq92, Eq92, Fq92_0, Fq92_1, Fq92_2, Fq92_3⟩
                  have N92 := Fr.app N90 Nq92
                  have K92 : Keep h0 T92.heap [] := K90.trans Kq92 (allS (Or.inr sz_nb4) all0)
                  show own_Go p e below _ T92 (mkF m 137 #[.val (.int ops), .val (.int c0), .val (.int c1), .val (.int flags), .val (.ref nb1), .val (.ref nb4), .val (.int (3 : Int32)), .val (.int (0 : Int32)), .val (.int (0 : Int32)), .val (.int (0 : Int32)), .unset, .unset, .unset, .unset, .unset] [])
                  refine own_st (fun t_ k_ => XS.iload X92.here hx rfl (hb hby at_137) rfl k_) ?_
                  show own_Go p e below _ T92 (mkF m 139 #[.val (.int ops), .val (.int c0), .val (.int c1), .val (.int flags), .val (.ref nb1), .val (.ref nb4), .val (.int (3 : Int32)), .val (.int (0 : Int32)), .val (.int (0 : Int32)), .val (.int (0 : Int32)), .unset, .unset, .unset, .unset, .unset] [(.int (3 : Int32))])
                  refine own_st (fun t_ k_ => XS.iconst X92.here hx rfl (hb hby at_139) k_) ?_
                  show own_Go p e below _ T92 (mkF m 140 #[.val (.int ops), .val (.int c0), .val (.int c1), .val (.int flags), .val (.ref nb1), .val (.ref nb4), .val (.int (3 : Int32)), .val (.int (0 : Int32)), .val (.int (0 : Int32)), .val (.int (0 : Int32)), .unset, .unset, .unset, .unset, .unset] [(.int (1 : Int32)), (.int (3 : Int32))])
                  refine own_st (fun t_ k_ => XS.icmpNo X92.here hx rfl (hb hby at_140) rfl (by decide) k_) ?_
                  show own_Go p e below _ T92 (mkF m 143 #[.val (.int ops), .val (.int c0), .val (.int c1), .val (.int flags), .val (.ref nb1), .val (.ref nb4), .val (.int (3 : Int32)), .val (.int (0 : Int32)), .val (.int (0 : Int32)), .val (.int (0 : Int32)), .unset, .unset, .unset, .unset, .unset] [])
                  refine own_st (fun t_ k_ => XS.iload X92.here hx rfl (hb hby at_143) rfl k_) ?_
                  show own_Go p e below _ T92 (mkF m 145 #[.val (.int ops), .val (.int c0), .val (.int c1), .val (.int flags), .val (.ref nb1), .val (.ref nb4), .val (.int (3 : Int32)), .val (.int (0 : Int32)), .val (.int (0 : Int32)), .val (.int (0 : Int32)), .unset, .unset, .unset, .unset, .unset] [(.int (0 : Int32))])
                  refine own_st (fun t_ k_ => XS.ifNo X92.here hx rfl (hb hby at_145) rfl (by decide) k_) ?_
                  show own_Go p e below _ T92 (mkF m 148 #[.val (.int ops), .val (.int c0), .val (.int c1), .val (.int flags), .val (.ref nb1), .val (.ref nb4), .val (.int (3 : Int32)), .val (.int (0 : Int32)), .val (.int (0 : Int32)), .val (.int (0 : Int32)), .unset, .unset, .unset, .unset, .unset] [])
                  refine own_st (fun t_ k_ => XS.iload X92.here hx rfl (hb hby at_148) rfl k_) ?_
                  show own_Go p e below _ T92 (mkF m 150 #[.val (.int ops), .val (.int c0), .val (.int c1), .val (.int flags), .val (.ref nb1), .val (.ref nb4), .val (.int (3 : Int32)), .val (.int (0 : Int32)), .val (.int (0 : Int32)), .val (.int (0 : Int32)), .unset, .unset, .unset, .unset, .unset] [(.int (3 : Int32))])
                  refine own_st (fun t_ k_ => XS.iconst X92.here hx rfl (hb hby at_150) k_) ?_
                  show own_Go p e below _ T92 (mkF m 151 #[.val (.int ops), .val (.int c0), .val (.int c1), .val (.int flags), .val (.ref nb1), .val (.ref nb4), .val (.int (3 : Int32)), .val (.int (0 : Int32)), .val (.int (0 : Int32)), .val (.int (0 : Int32)), .unset, .unset, .unset, .unset, .unset] [(.int (2 : Int32)), (.int (3 : Int32))])
                  refine own_st (fun t_ k_ => XS.icmpNo X92.here hx rfl (hb hby at_151) rfl (by decide) k_) ?_
                  show own_Go p e below _ T92 (mkF m 154 #[.val (.int ops), .val (.int c0), .val (.int c1), .val (.int flags), .val (.ref nb1), .val (.ref nb4), .val (.int (3 : Int32)), .val (.int (0 : Int32)), .val (.int (0 : Int32)), .val (.int (0 : Int32)), .unset, .unset, .unset, .unset, .unset] [])
                  refine own_st (fun t_ k_ => XS.iload X92.here hx rfl (hb hby at_154) rfl k_) ?_
                  show own_Go p e below _ T92 (mkF m 156 #[.val (.int ops), .val (.int c0), .val (.int c1), .val (.int flags), .val (.ref nb1), .val (.ref nb4), .val (.int (3 : Int32)), .val (.int (0 : Int32)), .val (.int (0 : Int32)), .val (.int (0 : Int32)), .unset, .unset, .unset, .unset, .unset] [(.int (0 : Int32))])
                  refine own_st (fun t_ k_ => XS.ifNo X92.here hx rfl (hb hby at_156) rfl (by decide) k_) ?_
                  show own_Go p e below _ T92 (mkF m 159 #[.val (.int ops), .val (.int c0), .val (.int c1), .val (.int flags), .val (.ref nb1), .val (.ref nb4), .val (.int (3 : Int32)), .val (.int (0 : Int32)), .val (.int (0 : Int32)), .val (.int (0 : Int32)), .unset, .unset, .unset, .unset, .unset] [])
                  refine own_st (fun t_ k_ => XS.iload X92.here hx rfl (hb hby at_159) rfl k_) ?_
                  show own_Go p e below _ T92 (mkF m 161 #[.val (.int ops), .val (.int c0), .val (.int c1), .val (.int flags), .val (.ref nb1), .val (.ref nb4), .val (.int (3 : Int32)), .val (.int (0 : Int32)), .val (.int (0 : Int32)), .val (.int (0 : Int32)), .unset, .unset, .unset, .unset, .unset] [(.int (3 : Int32))])
                  refine own_st (fun t_ k_ => XS.iconst X92.here hx rfl (hb hby at_161) k_) ?_
                  show own_Go p e below _ T92 (mkF m 162 #[.val (.int ops), .val (.int c0), .val (.int c1), .val (.int flags), .val (.ref nb1), .val (.ref nb4), .val (.int (3 : Int32)), .val (.int (0 : Int32)), .val (.int (0 : Int32)), .val (.int (0 : Int32)), .unset, .unset, .unset, .unset, .unset] [(.int (3 : Int32)), (.int (3 : Int32))])
                  refine own_st (fun t_ k_ => XS.icmpNo X92.here hx rfl (hb hby at_162) rfl (by decide) k_) ?_
                  show own_Go p e below _ T92 (mkF m 165 #[.val (.int ops), .val (.int c0), .val (.int c1), .val (.int flags), .val (.ref nb1), .val (.ref nb4), .val (.int (3 : Int32)), .val (.int (0 : Int32)), .val (.int (0 : Int32)), .val (.int (0 : Int32)), .unset, .unset, .unset, .unset, .unset] [])
                  refine own_st (fun t_ k_ => XS.iload X92.here hx rfl (hb hby at_165) rfl k_) ?_
                  show own_Go p e below _ T92 (mkF m 167 #[.val (.int ops), .val (.int c0), .val (.int c1), .val (.int flags), .val (.ref nb1), .val (.ref nb4), .val (.int (3 : Int32)), .val (.int (0 : Int32)), .val (.int (0 : Int32)), .val (.int (0 : Int32)), .unset, .unset, .unset, .unset, .unset] [(.int (0 : Int32))])
                  refine own_st (fun t_ k_ => XS.ifYes X92.here hx rfl (pc0 := 167) (pc' := 174) rfl (hb hby at_167) rfl (by decide) (by decide) (by decide) k_) ?_
                  show own_Go p e below _ T92 (mkF m 174 #[.val (.int ops), .val (.int c0), .val (.int c1), .val (.int flags), .val (.ref nb1), .val (.ref nb4), .val (.int (3 : Int32)), .val (.int (0 : Int32)), .val (.int (0 : Int32)), .val (.int (0 : Int32)), .unset, .unset, .unset, .unset, .unset] [])
                  refine own_st (fun t_ k_ => XS.iconst X92.here hx rfl (hb hby at_174) k_) ?_
                  show own_Go p e below _ T92 (mkF m 175 #[.val (.int ops), .val (.int c0), .val (.int c1), .val (.int flags), .val (.ref nb1), .val (.ref nb4), .val (.int (3 : Int32)), .val (.int (0 : Int32)), .val (.int (0 : Int32)), .val (.int (0 : Int32)), .unset, .unset, .unset, .unset, .unset] [(.int (0 : Int32))])
                  refine own_st (fun t_ k_ => XS.istore X92.here hx rfl (hb hby at_175) rfl (l' := #[.val (.int ops), .val (.int c0), .val (.int c1), .val (.int flags), .val (.ref nb1), .val (.ref nb4), .val (.int (3 : Int32)), .val (.int (0 : Int32)), .val (.int (0 : Int32)), .val (.int (0 : Int32)), .val (.int (0 : Int32)), .unset, .unset, .unset, .unset]) rfl k_) ?_
                  show own_Go p e below _ T92 (mkF m 177 #[.val (.int ops), .val (.int c0), .val (.int c1), .val (.int flags), .val (.ref nb1), .val (.ref nb4), .val (.int (3 : Int32)), .val (.int (0 : Int32)), .val (.int (0 : Int32)), .val (.int (0 : Int32)), .val (.int (0 : Int32)), .unset, .unset, .unset, .unset] [])
                  refine own_st (fun t_ k_ => XS.iload X92.here hx rfl (hb hby at_177) rfl k_) ?_
                  show own_Go p e below _ T92 (mkF m 179 #[.val (.int ops), .val (.int c0), .val (.int c1), .val (.int flags), .val (.ref nb1), .val (.ref nb4), .val (.int (3 : Int32)), .val (.int (0 : Int32)), .val (.int (0 : Int32)), .val (.int (0 : Int32)), .val (.int (0 : Int32)), .unset, .unset, .unset, .unset] [(.int (3 : Int32))])
                  refine own_st (fun t_ k_ => XS.iconst X92.here hx rfl (hb hby at_179) k_) ?_
                  show own_Go p e below _ T92 (mkF m 180 #[.val (.int ops), .val (.int c0), .val (.int c1), .val (.int flags), .val (.ref nb1), .val (.ref nb4), .val (.int (3 : Int32)), .val (.int (0 : Int32)), .val (.int (0 : Int32)), .val (.int (0 : Int32)), .val (.int (0 : Int32)), .unset, .unset, .unset, .unset] [(.int (1 : Int32)), (.int (3 : Int32))])
                  refine own_st (fun t_ k_ => XS.icmpNo X92.here hx rfl (hb hby at_180) rfl (by decide) k_) ?_
                  show own_Go p e below _ T92 (mkF m 183 #[.val (.int ops), .val (.int c0), .val (.int c1), .val (.int flags), .val (.ref nb1), .val (.ref nb4), .val (.int (3 : Int32)), .val (.int (0 : Int32)), .val (.int (0 : Int32)), .val (.int (0 : Int32)), .val (.int (0 : Int32)), .unset, .unset, .unset, .unset] [])
                  refine own_st (fun t_ k_ => XS.iload X92.here hx rfl (hb hby at_183) rfl k_) ?_
                  show own_Go p e below _ T92 (mkF m 185 #[.val (.int ops), .val (.int c0), .val (.int c1), .val (.int flags), .val (.ref nb1), .val (.ref nb4), .val (.int (3 : Int32)), .val (.int (0 : Int32)), .val (.int (0 : Int32)), .val (.int (0 : Int32)), .val (.int (0 : Int32)), .unset, .unset, .unset, .unset] [(.int (0 : Int32))])
                  refine own_st (fun t_ k_ => XS.ifYes X92.here hx rfl (pc0 := 185) (pc' := 210) rfl (hb hby at_185) rfl (by decide) (by decide) (by decide) k_) ?_
                  show own_Go p e below _ T92 (mkF m 210 #[.val (.int ops), .val (.int c0), .val (.int c1), .val (.int flags), .val (.ref nb1), .val (.ref nb4), .val (.int (3 : Int32)), .val (.int (0 : Int32)), .val (.int (0 : Int32)), .val (.int (0 : Int32)), .val (.int (0 : Int32)), .unset, .unset, .unset, .unset] [])
                  refine own_st (fun t_ k_ => XS.iconst X92.here hx rfl (hb hby at_210) k_) ?_
                  show own_Go p e below _ T92 (mkF m 211 #[.val (.int ops), .val (.int c0), .val (.int c1), .val (.int flags), .val (.ref nb1), .val (.ref nb4), .val (.int (3 : Int32)), .val (.int (0 : Int32)), .val (.int (0 : Int32)), .val (.int (0 : Int32)), .val (.int (0 : Int32)), .unset, .unset, .unset, .unset] [(.int (1 : Int32))])
                  refine own_st (fun t_ k_ => XS.goto X92.here hx rfl (pc0 := 211) (pc' := 215) rfl (hb hby at_211) (by decide) (by decide) k_) ?_
                  show own_Go p e below _ T92 (mkF m 215 #[.val (.int ops), .val (.int c0), .val (.int c1), .val (.int flags), .val (.ref nb1), .val (.ref nb4), .val (.int (3 : Int32)), .val (.int (0 : Int32)), .val (.int (0 : Int32)), .val (.int (0 : Int32)), .val (.int (0 : Int32)), .unset, .unset, .unset, .unset] [(.int (1 : Int32))])
                  refine own_st (fun t_ k_ => XS.istore X92.here hx rfl (hb hby at_215) rfl (l' := #[.val (.int ops), .val (.int c0), .val (.int c1), .val (.int flags), .val (.ref nb1), .val (.ref nb4), .val (.int (3 : Int32)), .val (.int (0 : Int32)), .val (.int (0 : Int32)), .val (.int (0 : Int32)), .val (.int (0 : Int32)), .val (.int (1 : Int32)), .unset, .unset, .unset]) rfl k_) ?_
                  show own_Go p e below _ T92 (mkF m 217 #[.val (.int ops), .val (.int c0), .val (.int c1), .val (.int flags), .val (.ref nb1), .val (.ref nb4), .val (.int (3 : Int32)), .val (.int (0 : Int32)), .val (.int (0 : Int32)), .val (.int (0 : Int32)), .val (.int (0 : Int32)), .val (.int (1 : Int32)), .unset, .unset, .unset] [])
                  refine own_st (fun t_ k_ => XS.aload X92.here hx rfl (hb hby at_217) rfl rfl k_) ?_
                  show own_Go p e below _ T92 (mkF m 219 #[.val (.int ops), .val (.int c0), .val (.int c1), .val (.int flags), .val (.ref nb1), .val (.ref nb4), .val (.int (3 : Int32)), .val (.int (0 : Int32)), .val (.int (0 : Int32)), .val (.int (0 : Int32)), .val (.int (0 : Int32)), .val (.int (1 : Int32)), .unset, .unset, .unset] [(.ref nb4)])
                  refine own_st (fun t_ k_ => XS.iconst X92.here hx rfl (hb hby at_219) k_) ?_
                  show own_Go p e below _ T92 (mkF m 220 #[.val (.int ops), .val (.int c0), .val (.int c1), .val (.int flags), .val (.ref nb1), .val (.ref nb4), .val (.int (3 : Int32)), .val (.int (0 : Int32)), .val (.int (0 : Int32)), .val (.int (0 : Int32)), .val (.int (0 : Int32)), .val (.int (1 : Int32)), .unset, .unset, .unset] [(.int (1 : Int32)), (.ref nb4)])
                  obtain ⟨cq95, kq95, q95a, q95b, q95c⟩ := isOf hZ rfl Eq92
                  refine own_callV X92 hx (y := (⟨"com/example/kapu/kapu/service/Coverage$Part", "isCovered", "(Z)Z"⟩ : MethodName)) (z := (⟨"com/example/kapu/kapu/service/Coverage$Part", "isCovered", "(Z)Z"⟩ : MethodName)) hown (mvT hZ (hw _ (List.mem_of_getElem? (i := 41) rfl))) (mvT hZ (hw _ (List.mem_of_getElem? (i := 42) rfl))) (notFace_of_selects (args := #[]) (mvT hZ (hw _ (List.mem_of_getElem? (i := 44) rfl)))) (mvT hZ (hw _ (List.mem_of_getElem? (i := 44) rfl))) (mvT hZ (hw _ (List.mem_of_getElem? (i := 43) rfl))) (by decide) (backOf (W := 0) (rmV1 l Z a0 hw [] nb4 (0 : Int32) T92.heap n0 (Nat.le_trans Z0 K92.1) Fq92_2 rfl) hZ (hw _ (List.mem_of_getElem? (i := 45) rfl)) (hw _ (List.mem_of_getElem? (i := 3) rfl)) (by decide) (by decide)) q95a q95c (g := (mkF m 220 #[.val (.int ops), .val (.int c0), .val (.int c1), .val (.int flags), .val (.ref nb1), .val (.ref nb4), .val (.int (3 : Int32)), .val (.int (0 : Int32)), .val (.int (0 : Int32)), .val (.int (0 : Int32)), .val (.int (0 : Int32)), .val (.int (1 : Int32)), .unset, .unset, .unset] [(.int (1 : Int32)), (.ref nb4)])) rfl (by rw [hml]; rfl) (argsL := [(.int (1 : Int32))]) (rest := []) (lenOf pd_2 rfl) rfl (by show 2 * 0 + _ ≤ _; exact Nat.le_of_eq rfl) (hb hby at_220) rfl rfl (by decide) (by decide) ?_
                  rintro v94 T94 L94 X94 ⟨rfl, Nq94, hh94⟩
                  have N94 := Fr.app N92 Nq94
                  show own_Go p e below _ T94 (mkF m 223 #[.val (.int ops), .val (.int c0), .val (.int c1), .val (.int flags), .val (.ref nb1), .val (.ref nb4), .val (.int (3 : Int32)), .val (.int (0 : Int32)), .val (.int (0 : Int32)), .val (.int (0 : Int32)), .val (.int (0 : Int32)), .val (.int (1 : Int32)), .unset, .unset, .unset] [(.int (0 : Int32))])
                  refine own_st (fun t_ k_ => XS.istore X94.here hx rfl (hb hby at_223) rfl (l' := #[.val (.int ops), .val (.int c0), .val (.int c1), .val (.int flags), .val (.ref nb1), .val (.ref nb4), .val (.int (3 : Int32)), .val (.int (0 : Int32)), .val (.int (0 : Int32)), .val (.int (0 : Int32)), .val (.int (0 : Int32)), .val (.int (1 : Int32)), .val (.int (0 : Int32)), .unset, .unset]) rfl k_) ?_
                  show own_Go p e below _ T94 (mkF m 225 #[.val (.int ops), .val (.int c0), .val (.int c1), .val (.int flags), .val (.ref nb1), .val (.ref nb4), .val (.int (3 : Int32)), .val (.int (0 : Int32)), .val (.int (0 : Int32)), .val (.int (0 : Int32)), .val (.int (0 : Int32)), .val (.int (1 : Int32)), .val (.int (0 : Int32)), .unset, .unset] [])
                  refine own_st (fun t_ k_ => XS.aload X94.here hx rfl (hb hby at_225) rfl rfl k_) ?_
                  show own_Go p e below _ T94 (mkF m 227 #[.val (.int ops), .val (.int c0), .val (.int c1), .val (.int flags), .val (.ref nb1), .val (.ref nb4), .val (.int (3 : Int32)), .val (.int (0 : Int32)), .val (.int (0 : Int32)), .val (.int (0 : Int32)), .val (.int (0 : Int32)), .val (.int (1 : Int32)), .val (.int (0 : Int32)), .unset, .unset] [(.ref nb4)])
                  refine own_st (fun t_ k_ => XS.iconst X94.here hx rfl (hb hby at_227) k_) ?_
                  show own_Go p e below _ T94 (mkF m 228 #[.val (.int ops), .val (.int c0), .val (.int c1), .val (.int flags), .val (.ref nb1), .val (.ref nb4), .val (.int (3 : Int32)), .val (.int (0 : Int32)), .val (.int (0 : Int32)), .val (.int (0 : Int32)), .val (.int (0 : Int32)), .val (.int (1 : Int32)), .val (.int (0 : Int32)), .unset, .unset] [(.int (0 : Int32)), (.ref nb4)])
                  obtain ⟨cq97, kq97, q97a, q97b, q97c⟩ := isOf hZ hh94 Eq92
                  refine own_callV X94 hx (y := (⟨"com/example/kapu/kapu/service/Coverage$Part", "isCovered", "(Z)Z"⟩ : MethodName)) (z := (⟨"com/example/kapu/kapu/service/Coverage$Part", "isCovered", "(Z)Z"⟩ : MethodName)) hown (mvT hZ (hw _ (List.mem_of_getElem? (i := 41) rfl))) (mvT hZ (hw _ (List.mem_of_getElem? (i := 42) rfl))) (notFace_of_selects (args := #[]) (mvT hZ (hw _ (List.mem_of_getElem? (i := 44) rfl)))) (mvT hZ (hw _ (List.mem_of_getElem? (i := 44) rfl))) (mvT hZ (hw _ (List.mem_of_getElem? (i := 43) rfl))) (by decide) (backOf (W := 0) (rmV0 l Z a0 hw [] nb4 (1 : Int32) T92.heap n0 (Nat.le_trans Z0 K92.1) Fq92_3 rfl) hZ (hw _ (List.mem_of_getElem? (i := 45) rfl)) (hw _ (List.mem_of_getElem? (i := 3) rfl)) (by decide) (by decide)) q97a q97c (g := (mkF m 228 #[.val (.int ops), .val (.int c0), .val (.int c1), .val (.int flags), .val (.ref nb1), .val (.ref nb4), .val (.int (3 : Int32)), .val (.int (0 : Int32)), .val (.int (0 : Int32)), .val (.int (0 : Int32)), .val (.int (0 : Int32)), .val (.int (1 : Int32)), .val (.int (0 : Int32)), .unset, .unset] [(.int (0 : Int32)), (.ref nb4)])) rfl (by rw [hml]; rfl) (argsL := [(.int (0 : Int32))]) (rest := []) (lenOf pd_2 rfl) rfl (by show 2 * 0 + _ ≤ _; exact Nat.le_of_eq rfl) (hb hby at_228) rfl hh94 (by decide) (by decide) ?_
                  rintro v96 T96 L96 X96 ⟨rfl, Nq96, hh96⟩
                  have N96 := Fr.app N94 Nq96
                  show own_Go p e below _ T96 (mkF m 231 #[.val (.int ops), .val (.int c0), .val (.int c1), .val (.int flags), .val (.ref nb1), .val (.ref nb4), .val (.int (3 : Int32)), .val (.int (0 : Int32)), .val (.int (0 : Int32)), .val (.int (0 : Int32)), .val (.int (0 : Int32)), .val (.int (1 : Int32)), .val (.int (0 : Int32)), .unset, .unset] [(.int (1 : Int32))])
                  refine own_st (fun t_ k_ => XS.istore X96.here hx rfl (hb hby at_231) rfl (l' := #[.val (.int ops), .val (.int c0), .val (.int c1), .val (.int flags), .val (.ref nb1), .val (.ref nb4), .val (.int (3 : Int32)), .val (.int (0 : Int32)), .val (.int (0 : Int32)), .val (.int (0 : Int32)), .val (.int (0 : Int32)), .val (.int (1 : Int32)), .val (.int (0 : Int32)), .val (.int (1 : Int32)), .unset]) rfl k_) ?_
                  show own_Go p e below _ T96 (mkF m 233 #[.val (.int ops), .val (.int c0), .val (.int c1), .val (.int flags), .val (.ref nb1), .val (.ref nb4), .val (.int (3 : Int32)), .val (.int (0 : Int32)), .val (.int (0 : Int32)), .val (.int (0 : Int32)), .val (.int (0 : Int32)), .val (.int (1 : Int32)), .val (.int (0 : Int32)), .val (.int (1 : Int32)), .unset] [])
                  refine own_st (fun t_ k_ => XS.aload X96.here hx rfl (hb hby at_233) rfl rfl k_) ?_
                  show own_Go p e below _ T96 (mkF m 235 #[.val (.int ops), .val (.int c0), .val (.int c1), .val (.int flags), .val (.ref nb1), .val (.ref nb4), .val (.int (3 : Int32)), .val (.int (0 : Int32)), .val (.int (0 : Int32)), .val (.int (0 : Int32)), .val (.int (0 : Int32)), .val (.int (1 : Int32)), .val (.int (0 : Int32)), .val (.int (1 : Int32)), .unset] [(.ref nb4)])
                  refine own_st (fun t_ k_ => XS.iconst X96.here hx rfl (hb hby at_235) k_) ?_
                  show own_Go p e below _ T96 (mkF m 236 #[.val (.int ops), .val (.int c0), .val (.int c1), .val (.int flags), .val (.ref nb1), .val (.ref nb4), .val (.int (3 : Int32)), .val (.int (0 : Int32)), .val (.int (0 : Int32)), .val (.int (0 : Int32)), .val (.int (0 : Int32)), .val (.int (1 : Int32)), .val (.int (0 : Int32)), .val (.int (1 : Int32)), .unset] [(.int (1 : Int32)), (.ref nb4)])
                  obtain ⟨cq99, kq99, q99a, q99b, q99c⟩ := isOf hZ hh96 Eq92
                  refine own_callV X96 hx (y := (⟨"com/example/kapu/kapu/service/Coverage$Part", "isCovered", "(Z)Z"⟩ : MethodName)) (z := (⟨"com/example/kapu/kapu/service/Coverage$Part", "isCovered", "(Z)Z"⟩ : MethodName)) hown (mvT hZ (hw _ (List.mem_of_getElem? (i := 41) rfl))) (mvT hZ (hw _ (List.mem_of_getElem? (i := 42) rfl))) (notFace_of_selects (args := #[]) (mvT hZ (hw _ (List.mem_of_getElem? (i := 44) rfl)))) (mvT hZ (hw _ (List.mem_of_getElem? (i := 44) rfl))) (mvT hZ (hw _ (List.mem_of_getElem? (i := 43) rfl))) (by decide) (backOf (W := 0) (rmV1 l Z a0 hw [] nb4 (0 : Int32) T92.heap n0 (Nat.le_trans Z0 K92.1) Fq92_2 rfl) hZ (hw _ (List.mem_of_getElem? (i := 45) rfl)) (hw _ (List.mem_of_getElem? (i := 3) rfl)) (by decide) (by decide)) q99a q99c (g := (mkF m 236 #[.val (.int ops), .val (.int c0), .val (.int c1), .val (.int flags), .val (.ref nb1), .val (.ref nb4), .val (.int (3 : Int32)), .val (.int (0 : Int32)), .val (.int (0 : Int32)), .val (.int (0 : Int32)), .val (.int (0 : Int32)), .val (.int (1 : Int32)), .val (.int (0 : Int32)), .val (.int (1 : Int32)), .unset] [(.int (1 : Int32)), (.ref nb4)])) rfl (by rw [hml]; rfl) (argsL := [(.int (1 : Int32))]) (rest := []) (lenOf pd_2 rfl) rfl (by show 2 * 0 + _ ≤ _; exact Nat.le_of_eq rfl) (hb hby at_236) rfl hh96 (by decide) (by decide) ?_
                  rintro v98 T98 L98 X98 ⟨rfl, Nq98, hh98⟩
                  have N98 := Fr.app N96 Nq98
                  show own_Go p e below _ T98 (mkF m 239 #[.val (.int ops), .val (.int c0), .val (.int c1), .val (.int flags), .val (.ref nb1), .val (.ref nb4), .val (.int (3 : Int32)), .val (.int (0 : Int32)), .val (.int (0 : Int32)), .val (.int (0 : Int32)), .val (.int (0 : Int32)), .val (.int (1 : Int32)), .val (.int (0 : Int32)), .val (.int (1 : Int32)), .unset] [(.int (0 : Int32))])
                  refine own_st (fun t_ k_ => XS.istore X98.here hx rfl (hb hby at_239) rfl (l' := #[.val (.int ops), .val (.int c0), .val (.int c1), .val (.int flags), .val (.ref nb1), .val (.ref nb4), .val (.int (3 : Int32)), .val (.int (0 : Int32)), .val (.int (0 : Int32)), .val (.int (0 : Int32)), .val (.int (0 : Int32)), .val (.int (1 : Int32)), .val (.int (0 : Int32)), .val (.int (1 : Int32)), .val (.int (0 : Int32))]) rfl k_) ?_
                  show own_Go p e below _ T98 (mkF m 241 #[.val (.int ops), .val (.int c0), .val (.int c1), .val (.int flags), .val (.ref nb1), .val (.ref nb4), .val (.int (3 : Int32)), .val (.int (0 : Int32)), .val (.int (0 : Int32)), .val (.int (0 : Int32)), .val (.int (0 : Int32)), .val (.int (1 : Int32)), .val (.int (0 : Int32)), .val (.int (1 : Int32)), .val (.int (0 : Int32))] [])
                  refine own_st (fun t_ k_ => XS.iload X98.here hx rfl (hb hby at_241) rfl k_) ?_
                  show own_Go p e below _ T98 (mkF m 243 #[.val (.int ops), .val (.int c0), .val (.int c1), .val (.int flags), .val (.ref nb1), .val (.ref nb4), .val (.int (3 : Int32)), .val (.int (0 : Int32)), .val (.int (0 : Int32)), .val (.int (0 : Int32)), .val (.int (0 : Int32)), .val (.int (1 : Int32)), .val (.int (0 : Int32)), .val (.int (1 : Int32)), .val (.int (0 : Int32))] [(.int (0 : Int32))])
                  refine own_st (fun t_ k_ => XS.iload X98.here hx rfl (hb hby at_243) rfl k_) ?_
                  show own_Go p e below _ T98 (mkF m 245 #[.val (.int ops), .val (.int c0), .val (.int c1), .val (.int flags), .val (.ref nb1), .val (.ref nb4), .val (.int (3 : Int32)), .val (.int (0 : Int32)), .val (.int (0 : Int32)), .val (.int (0 : Int32)), .val (.int (0 : Int32)), .val (.int (1 : Int32)), .val (.int (0 : Int32)), .val (.int (1 : Int32)), .val (.int (0 : Int32))] [(.int (0 : Int32)), (.int (0 : Int32))])
                  refine own_st (fun t_ k_ => XS.icmpNo X98.here hx rfl (hb hby at_245) rfl (by decide) k_) ?_
                  show own_Go p e below _ T98 (mkF m 248 #[.val (.int ops), .val (.int c0), .val (.int c1), .val (.int flags), .val (.ref nb1), .val (.ref nb4), .val (.int (3 : Int32)), .val (.int (0 : Int32)), .val (.int (0 : Int32)), .val (.int (0 : Int32)), .val (.int (0 : Int32)), .val (.int (1 : Int32)), .val (.int (0 : Int32)), .val (.int (1 : Int32)), .val (.int (0 : Int32))] [])
                  refine own_st (fun t_ k_ => XS.iload X98.here hx rfl (hb hby at_248) rfl k_) ?_
                  show own_Go p e below _ T98 (mkF m 250 #[.val (.int ops), .val (.int c0), .val (.int c1), .val (.int flags), .val (.ref nb1), .val (.ref nb4), .val (.int (3 : Int32)), .val (.int (0 : Int32)), .val (.int (0 : Int32)), .val (.int (0 : Int32)), .val (.int (0 : Int32)), .val (.int (1 : Int32)), .val (.int (0 : Int32)), .val (.int (1 : Int32)), .val (.int (0 : Int32))] [(.int (1 : Int32))])
                  refine own_st (fun t_ k_ => XS.iload X98.here hx rfl (hb hby at_250) rfl k_) ?_
                  show own_Go p e below _ T98 (mkF m 252 #[.val (.int ops), .val (.int c0), .val (.int c1), .val (.int flags), .val (.ref nb1), .val (.ref nb4), .val (.int (3 : Int32)), .val (.int (0 : Int32)), .val (.int (0 : Int32)), .val (.int (0 : Int32)), .val (.int (0 : Int32)), .val (.int (1 : Int32)), .val (.int (0 : Int32)), .val (.int (1 : Int32)), .val (.int (0 : Int32))] [(.int (1 : Int32)), (.int (1 : Int32))])
                  refine own_st (fun t_ k_ => XS.icmpNo X98.here hx rfl (hb hby at_252) rfl (by decide) k_) ?_
                  show own_Go p e below _ T98 (mkF m 255 #[.val (.int ops), .val (.int c0), .val (.int c1), .val (.int flags), .val (.ref nb1), .val (.ref nb4), .val (.int (3 : Int32)), .val (.int (0 : Int32)), .val (.int (0 : Int32)), .val (.int (0 : Int32)), .val (.int (0 : Int32)), .val (.int (1 : Int32)), .val (.int (0 : Int32)), .val (.int (1 : Int32)), .val (.int (0 : Int32))] [])
                  refine own_st (fun t_ k_ => XS.iload X98.here hx rfl (hb hby at_255) rfl k_) ?_
                  show own_Go p e below _ T98 (mkF m 257 #[.val (.int ops), .val (.int c0), .val (.int c1), .val (.int flags), .val (.ref nb1), .val (.ref nb4), .val (.int (3 : Int32)), .val (.int (0 : Int32)), .val (.int (0 : Int32)), .val (.int (0 : Int32)), .val (.int (0 : Int32)), .val (.int (1 : Int32)), .val (.int (0 : Int32)), .val (.int (1 : Int32)), .val (.int (0 : Int32))] [(.int (0 : Int32))])
                  refine own_st (fun t_ k_ => XS.iload X98.here hx rfl (hb hby at_257) rfl k_) ?_
                  show own_Go p e below _ T98 (mkF m 259 #[.val (.int ops), .val (.int c0), .val (.int c1), .val (.int flags), .val (.ref nb1), .val (.ref nb4), .val (.int (3 : Int32)), .val (.int (0 : Int32)), .val (.int (0 : Int32)), .val (.int (0 : Int32)), .val (.int (0 : Int32)), .val (.int (1 : Int32)), .val (.int (0 : Int32)), .val (.int (1 : Int32)), .val (.int (0 : Int32))] [(.int (0 : Int32)), (.int (0 : Int32))])
                  refine own_st (fun t_ k_ => XS.icmpNo X98.here hx rfl (hb hby at_259) rfl (by decide) k_) ?_
                  show own_Go p e below _ T98 (mkF m 262 #[.val (.int ops), .val (.int c0), .val (.int c1), .val (.int flags), .val (.ref nb1), .val (.ref nb4), .val (.int (3 : Int32)), .val (.int (0 : Int32)), .val (.int (0 : Int32)), .val (.int (0 : Int32)), .val (.int (0 : Int32)), .val (.int (1 : Int32)), .val (.int (0 : Int32)), .val (.int (1 : Int32)), .val (.int (0 : Int32))] [])
                  refine own_st (fun t_ k_ => XS.iconst X98.here hx rfl (hb hby at_262) k_) ?_
                  show own_Go p e below _ T98 (mkF m 263 #[.val (.int ops), .val (.int c0), .val (.int c1), .val (.int flags), .val (.ref nb1), .val (.ref nb4), .val (.int (3 : Int32)), .val (.int (0 : Int32)), .val (.int (0 : Int32)), .val (.int (0 : Int32)), .val (.int (0 : Int32)), .val (.int (1 : Int32)), .val (.int (0 : Int32)), .val (.int (1 : Int32)), .val (.int (0 : Int32))] [(.int (1 : Int32))])
                  refine own_st (fun t_ k_ => XS.goto X98.here hx rfl (pc0 := 263) (pc' := 267) rfl (hb hby at_263) (by decide) (by decide) k_) ?_
                  show own_Go p e below _ T98 (mkF m 267 #[.val (.int ops), .val (.int c0), .val (.int c1), .val (.int flags), .val (.ref nb1), .val (.ref nb4), .val (.int (3 : Int32)), .val (.int (0 : Int32)), .val (.int (0 : Int32)), .val (.int (0 : Int32)), .val (.int (0 : Int32)), .val (.int (1 : Int32)), .val (.int (0 : Int32)), .val (.int (1 : Int32)), .val (.int (0 : Int32))] [(.int (1 : Int32))])
                  refine own_retN X98 hx hlk (t := .boolean) Bd.returns (by simp) (hb hby at_267) ?_ (by decide) (by decide)
                  show Q0 n0 _ T98.heap _
                  rw [hh98]
                  exact ⟨rfl, N98⟩
                · show own_Go p e below _ T90 (mkF m 134 #[.val (.int ops), .val (.int c0), .val (.int c1), .val (.int flags), .val (.ref nb1), .val (.ref nb4), .val (.int (3 : Int32)), .val (.int (0 : Int32)), .val (.int (0 : Int32)), .val (.int (1 : Int32)), .unset, .unset, .unset, .unset, .unset] [(.int (1 : Int32)), (.ref nb4)])
                  obtain ⟨cq101, kq101, q101a, q101b, q101c⟩ := isOf hZ rfl Eq90
                  refine own_callV X90 hx (y := (⟨"com/example/kapu/kapu/service/Coverage$Part", "cover", "(Z)V"⟩ : MethodName)) (z := (⟨"com/example/kapu/kapu/service/Coverage$Part", "cover", "(Z)V"⟩ : MethodName)) hown (mvT hZ (hw _ (List.mem_of_getElem? (i := 50) rfl))) (mvT hZ (hw _ (List.mem_of_getElem? (i := 51) rfl))) (notFace_of_selects (args := #[]) (mvT hZ (hw _ (List.mem_of_getElem? (i := 53) rfl)))) (mvT hZ (hw _ (List.mem_of_getElem? (i := 53) rfl))) (mvT hZ (hw _ (List.mem_of_getElem? (i := 52) rfl))) (by decide) (backOf (W := 0) (rmC1 l Z a0 hw [] nb4 nb5 bz (0 : Int32) (1 : Int32) T90.heap n0 (Nat.le_trans Z0 K90.1) g_nb4 Eq90 Fq90_0 Fq90_1 Fq90_2 Fq90_3) hZ (hw _ (List.mem_of_getElem? (i := 54) rfl)) (hw _ (List.mem_of_getElem? (i := 3) rfl)) (by decide) (by decide)) q101a q101c (g := (mkF m 134 #[.val (.int ops), .val (.int c0), .val (.int c1), .val (.int flags), .val (.ref nb1), .val (.ref nb4), .val (.int (3 : Int32)), .val (.int (0 : Int32)), .val (.int (0 : Int32)), .val (.int (1 : Int32)), .unset, .unset, .unset, .unset, .unset] [(.int (1 : Int32)), (.ref nb4)])) rfl (by rw [hml]; rfl) (argsL := [(.int (1 : Int32))]) (rest := []) (lenOf pd_3 rfl) rfl (by show 2 * 0 + _ ≤ _; exact Nat.le_of_eq rfl) (hb hby at_134) rfl rfl (by decide) (by decide) ?_
                  rintro v100 T100 L100 X100 ⟨rfl, Nq100, Kq100, Eq100, Fq100_0, Fq100_1, Fq100_2, Fq100_3⟩
                  have N100 := Fr.app N90 Nq100
                  have K100 : Keep h0 T100.heap [] := K90.trans Kq100 (allS (Or.inr sz_nb4) all0)
                  show own_Go p e below _ T100 (mkF m 137 #[.val (.int ops), .val (.int c0), .val (.int c1), .val (.int flags), .val (.ref nb1), .val (.ref nb4), .val (.int (3 : Int32)), .val (.int (0 : Int32)), .val (.int (0 : Int32)), .val (.int (1 : Int32)), .unset, .unset, .unset, .unset, .unset] [])
                  refine own_st (fun t_ k_ => XS.iload X100.here hx rfl (hb hby at_137) rfl k_) ?_
                  show own_Go p e below _ T100 (mkF m 139 #[.val (.int ops), .val (.int c0), .val (.int c1), .val (.int flags), .val (.ref nb1), .val (.ref nb4), .val (.int (3 : Int32)), .val (.int (0 : Int32)), .val (.int (0 : Int32)), .val (.int (1 : Int32)), .unset, .unset, .unset, .unset, .unset] [(.int (3 : Int32))])
                  refine own_st (fun t_ k_ => XS.iconst X100.here hx rfl (hb hby at_139) k_) ?_
                  show own_Go p e below _ T100 (mkF m 140 #[.val (.int ops), .val (.int c0), .val (.int c1), .val (.int flags), .val (.ref nb1), .val (.ref nb4), .val (.int (3 : Int32)), .val (.int (0 : Int32)), .val (.int (0 : Int32)), .val (.int (1 : Int32)), .unset, .unset, .unset, .unset, .unset] [(.int (1 : Int32)), (.int (3 : Int32))])
                  refine own_st (fun t_ k_ => XS.icmpNo X100.here hx rfl (hb hby at_140) rfl (by decide) k_) ?_
                  show own_Go p e below _ T100 (mkF m 143 #[.val (.int ops), .val (.int c0), .val (.int c1), .val (.int flags), .val (.ref nb1), .val (.ref nb4), .val (.int (3 : Int32)), .val (.int (0 : Int32)), .val (.int (0 : Int32)), .val (.int (1 : Int32)), .unset, .unset, .unset, .unset, .unset] [])
                  refine own_st (fun t_ k_ => XS.iload X100.here hx rfl (hb hby at_143) rfl k_) ?_
                  show own_Go p e below _ T100 (mkF m 145 #[.val (.int ops), .val (.int c0), .val (.int c1), .val (.int flags), .val (.ref nb1), .val (.ref nb4), .val (.int (3 : Int32)), .val (.int (0 : Int32)), .val (.int (0 : Int32)), .val (.int (1 : Int32)), .unset, .unset, .unset, .unset, .unset] [(.int (0 : Int32))])
                  refine own_st (fun t_ k_ => XS.ifNo X100.here hx rfl (hb hby at_145) rfl (by decide) k_) ?_
                  show own_Go p e below _ T100 (mkF m 148 #[.val (.int ops), .val (.int c0), .val (.int c1), .val (.int flags), .val (.ref nb1), .val (.ref nb4), .val (.int (3 : Int32)), .val (.int (0 : Int32)), .val (.int (0 : Int32)), .val (.int (1 : Int32)), .unset, .unset, .unset, .unset, .unset] [])
                  refine own_st (fun t_ k_ => XS.iload X100.here hx rfl (hb hby at_148) rfl k_) ?_
                  show own_Go p e below _ T100 (mkF m 150 #[.val (.int ops), .val (.int c0), .val (.int c1), .val (.int flags), .val (.ref nb1), .val (.ref nb4), .val (.int (3 : Int32)), .val (.int (0 : Int32)), .val (.int (0 : Int32)), .val (.int (1 : Int32)), .unset, .unset, .unset, .unset, .unset] [(.int (3 : Int32))])
                  refine own_st (fun t_ k_ => XS.iconst X100.here hx rfl (hb hby at_150) k_) ?_
                  show own_Go p e below _ T100 (mkF m 151 #[.val (.int ops), .val (.int c0), .val (.int c1), .val (.int flags), .val (.ref nb1), .val (.ref nb4), .val (.int (3 : Int32)), .val (.int (0 : Int32)), .val (.int (0 : Int32)), .val (.int (1 : Int32)), .unset, .unset, .unset, .unset, .unset] [(.int (2 : Int32)), (.int (3 : Int32))])
                  refine own_st (fun t_ k_ => XS.icmpNo X100.here hx rfl (hb hby at_151) rfl (by decide) k_) ?_
                  show own_Go p e below _ T100 (mkF m 154 #[.val (.int ops), .val (.int c0), .val (.int c1), .val (.int flags), .val (.ref nb1), .val (.ref nb4), .val (.int (3 : Int32)), .val (.int (0 : Int32)), .val (.int (0 : Int32)), .val (.int (1 : Int32)), .unset, .unset, .unset, .unset, .unset] [])
                  refine own_st (fun t_ k_ => XS.iload X100.here hx rfl (hb hby at_154) rfl k_) ?_
                  show own_Go p e below _ T100 (mkF m 156 #[.val (.int ops), .val (.int c0), .val (.int c1), .val (.int flags), .val (.ref nb1), .val (.ref nb4), .val (.int (3 : Int32)), .val (.int (0 : Int32)), .val (.int (0 : Int32)), .val (.int (1 : Int32)), .unset, .unset, .unset, .unset, .unset] [(.int (0 : Int32))])
                  refine own_st (fun t_ k_ => XS.ifNo X100.here hx rfl (hb hby at_156) rfl (by decide) k_) ?_
                  show own_Go p e below _ T100 (mkF m 159 #[.val (.int ops), .val (.int c0), .val (.int c1), .val (.int flags), .val (.ref nb1), .val (.ref nb4), .val (.int (3 : Int32)), .val (.int (0 : Int32)), .val (.int (0 : Int32)), .val (.int (1 : Int32)), .unset, .unset, .unset, .unset, .unset] [])
                  refine own_st (fun t_ k_ => XS.iload X100.here hx rfl (hb hby at_159) rfl k_) ?_
                  show own_Go p e below _ T100 (mkF m 161 #[.val (.int ops), .val (.int c0), .val (.int c1), .val (.int flags), .val (.ref nb1), .val (.ref nb4), .val (.int (3 : Int32)), .val (.int (0 : Int32)), .val (.int (0 : Int32)), .val (.int (1 : Int32)), .unset, .unset, .unset, .unset, .unset] [(.int (3 : Int32))])
                  refine own_st (fun t_ k_ => XS.iconst X100.here hx rfl (hb hby at_161) k_) ?_
                  show own_Go p e below _ T100 (mkF m 162 #[.val (.int ops), .val (.int c0), .val (.int c1), .val (.int flags), .val (.ref nb1), .val (.ref nb4), .val (.int (3 : Int32)), .val (.int (0 : Int32)), .val (.int (0 : Int32)), .val (.int (1 : Int32)), .unset, .unset, .unset, .unset, .unset] [(.int (3 : Int32)), (.int (3 : Int32))])
                  refine own_st (fun t_ k_ => XS.icmpNo X100.here hx rfl (hb hby at_162) rfl (by decide) k_) ?_
                  show own_Go p e below _ T100 (mkF m 165 #[.val (.int ops), .val (.int c0), .val (.int c1), .val (.int flags), .val (.ref nb1), .val (.ref nb4), .val (.int (3 : Int32)), .val (.int (0 : Int32)), .val (.int (0 : Int32)), .val (.int (1 : Int32)), .unset, .unset, .unset, .unset, .unset] [])
                  refine own_st (fun t_ k_ => XS.iload X100.here hx rfl (hb hby at_165) rfl k_) ?_
                  show own_Go p e below _ T100 (mkF m 167 #[.val (.int ops), .val (.int c0), .val (.int c1), .val (.int flags), .val (.ref nb1), .val (.ref nb4), .val (.int (3 : Int32)), .val (.int (0 : Int32)), .val (.int (0 : Int32)), .val (.int (1 : Int32)), .unset, .unset, .unset, .unset, .unset] [(.int (1 : Int32))])
                  refine own_st (fun t_ k_ => XS.ifNo X100.here hx rfl (hb hby at_167) rfl (by decide) k_) ?_
                  show own_Go p e below _ T100 (mkF m 170 #[.val (.int ops), .val (.int c0), .val (.int c1), .val (.int flags), .val (.ref nb1), .val (.ref nb4), .val (.int (3 : Int32)), .val (.int (0 : Int32)), .val (.int (0 : Int32)), .val (.int (1 : Int32)), .unset, .unset, .unset, .unset, .unset] [])
                  refine own_st (fun t_ k_ => XS.iconst X100.here hx rfl (hb hby at_170) k_) ?_
                  show own_Go p e below _ T100 (mkF m 171 #[.val (.int ops), .val (.int c0), .val (.int c1), .val (.int flags), .val (.ref nb1), .val (.ref nb4), .val (.int (3 : Int32)), .val (.int (0 : Int32)), .val (.int (0 : Int32)), .val (.int (1 : Int32)), .unset, .unset, .unset, .unset, .unset] [(.int (1 : Int32))])
                  refine own_st (fun t_ k_ => XS.goto X100.here hx rfl (pc0 := 171) (pc' := 175) rfl (hb hby at_171) (by decide) (by decide) k_) ?_
                  show own_Go p e below _ T100 (mkF m 175 #[.val (.int ops), .val (.int c0), .val (.int c1), .val (.int flags), .val (.ref nb1), .val (.ref nb4), .val (.int (3 : Int32)), .val (.int (0 : Int32)), .val (.int (0 : Int32)), .val (.int (1 : Int32)), .unset, .unset, .unset, .unset, .unset] [(.int (1 : Int32))])
                  refine own_st (fun t_ k_ => XS.istore X100.here hx rfl (hb hby at_175) rfl (l' := #[.val (.int ops), .val (.int c0), .val (.int c1), .val (.int flags), .val (.ref nb1), .val (.ref nb4), .val (.int (3 : Int32)), .val (.int (0 : Int32)), .val (.int (0 : Int32)), .val (.int (1 : Int32)), .val (.int (1 : Int32)), .unset, .unset, .unset, .unset]) rfl k_) ?_
                  show own_Go p e below _ T100 (mkF m 177 #[.val (.int ops), .val (.int c0), .val (.int c1), .val (.int flags), .val (.ref nb1), .val (.ref nb4), .val (.int (3 : Int32)), .val (.int (0 : Int32)), .val (.int (0 : Int32)), .val (.int (1 : Int32)), .val (.int (1 : Int32)), .unset, .unset, .unset, .unset] [])
                  refine own_st (fun t_ k_ => XS.iload X100.here hx rfl (hb hby at_177) rfl k_) ?_
                  show own_Go p e below _ T100 (mkF m 179 #[.val (.int ops), .val (.int c0), .val (.int c1), .val (.int flags), .val (.ref nb1), .val (.ref nb4), .val (.int (3 : Int32)), .val (.int (0 : Int32)), .val (.int (0 : Int32)), .val (.int (1 : Int32)), .val (.int (1 : Int32)), .unset, .unset, .unset, .unset] [(.int (3 : Int32))])
                  refine own_st (fun t_ k_ => XS.iconst X100.here hx rfl (hb hby at_179) k_) ?_
                  show own_Go p e below _ T100 (mkF m 180 #[.val (.int ops), .val (.int c0), .val (.int c1), .val (.int flags), .val (.ref nb1), .val (.ref nb4), .val (.int (3 : Int32)), .val (.int (0 : Int32)), .val (.int (0 : Int32)), .val (.int (1 : Int32)), .val (.int (1 : Int32)), .unset, .unset, .unset, .unset] [(.int (1 : Int32)), (.int (3 : Int32))])
                  refine own_st (fun t_ k_ => XS.icmpNo X100.here hx rfl (hb hby at_180) rfl (by decide) k_) ?_
                  show own_Go p e below _ T100 (mkF m 183 #[.val (.int ops), .val (.int c0), .val (.int c1), .val (.int flags), .val (.ref nb1), .val (.ref nb4), .val (.int (3 : Int32)), .val (.int (0 : Int32)), .val (.int (0 : Int32)), .val (.int (1 : Int32)), .val (.int (1 : Int32)), .unset, .unset, .unset, .unset] [])
                  refine own_st (fun t_ k_ => XS.iload X100.here hx rfl (hb hby at_183) rfl k_) ?_
                  show own_Go p e below _ T100 (mkF m 185 #[.val (.int ops), .val (.int c0), .val (.int c1), .val (.int flags), .val (.ref nb1), .val (.ref nb4), .val (.int (3 : Int32)), .val (.int (0 : Int32)), .val (.int (0 : Int32)), .val (.int (1 : Int32)), .val (.int (1 : Int32)), .unset, .unset, .unset, .unset] [(.int (0 : Int32))])
                  refine own_st (fun t_ k_ => XS.ifYes X100.here hx rfl (pc0 := 185) (pc' := 210) rfl (hb hby at_185) rfl (by decide) (by decide) (by decide) k_) ?_
                  show own_Go p e below _ T100 (mkF m 210 #[.val (.int ops), .val (.int c0), .val (.int c1), .val (.int flags), .val (.ref nb1), .val (.ref nb4), .val (.int (3 : Int32)), .val (.int (0 : Int32)), .val (.int (0 : Int32)), .val (.int (1 : Int32)), .val (.int (1 : Int32)), .unset, .unset, .unset, .unset] [])
                  refine own_st (fun t_ k_ => XS.iconst X100.here hx rfl (hb hby at_210) k_) ?_
                  show own_Go p e below _ T100 (mkF m 211 #[.val (.int ops), .val (.int c0), .val (.int c1), .val (.int flags), .val (.ref nb1), .val (.ref nb4), .val (.int (3 : Int32)), .val (.int (0 : Int32)), .val (.int (0 : Int32)), .val (.int (1 : Int32)), .val (.int (1 : Int32)), .unset, .unset, .unset, .unset] [(.int (1 : Int32))])
                  refine own_st (fun t_ k_ => XS.goto X100.here hx rfl (pc0 := 211) (pc' := 215) rfl (hb hby at_211) (by decide) (by decide) k_) ?_
                  show own_Go p e below _ T100 (mkF m 215 #[.val (.int ops), .val (.int c0), .val (.int c1), .val (.int flags), .val (.ref nb1), .val (.ref nb4), .val (.int (3 : Int32)), .val (.int (0 : Int32)), .val (.int (0 : Int32)), .val (.int (1 : Int32)), .val (.int (1 : Int32)), .unset, .unset, .unset, .unset] [(.int (1 : Int32))])
                  refine own_st (fun t_ k_ => XS.istore X100.here hx rfl (hb hby at_215) rfl (l' := #[.val (.int ops), .val (.int c0), .val (.int c1), .val (.int flags), .val (.ref nb1), .val (.ref nb4), .val (.int (3 : Int32)), .val (.int (0 : Int32)), .val (.int (0 : Int32)), .val (.int (1 : Int32)), .val (.int (1 : Int32)), .val (.int (1 : Int32)), .unset, .unset, .unset]) rfl k_) ?_
                  show own_Go p e below _ T100 (mkF m 217 #[.val (.int ops), .val (.int c0), .val (.int c1), .val (.int flags), .val (.ref nb1), .val (.ref nb4), .val (.int (3 : Int32)), .val (.int (0 : Int32)), .val (.int (0 : Int32)), .val (.int (1 : Int32)), .val (.int (1 : Int32)), .val (.int (1 : Int32)), .unset, .unset, .unset] [])
                  refine own_st (fun t_ k_ => XS.aload X100.here hx rfl (hb hby at_217) rfl rfl k_) ?_
                  show own_Go p e below _ T100 (mkF m 219 #[.val (.int ops), .val (.int c0), .val (.int c1), .val (.int flags), .val (.ref nb1), .val (.ref nb4), .val (.int (3 : Int32)), .val (.int (0 : Int32)), .val (.int (0 : Int32)), .val (.int (1 : Int32)), .val (.int (1 : Int32)), .val (.int (1 : Int32)), .unset, .unset, .unset] [(.ref nb4)])
                  refine own_st (fun t_ k_ => XS.iconst X100.here hx rfl (hb hby at_219) k_) ?_
                  show own_Go p e below _ T100 (mkF m 220 #[.val (.int ops), .val (.int c0), .val (.int c1), .val (.int flags), .val (.ref nb1), .val (.ref nb4), .val (.int (3 : Int32)), .val (.int (0 : Int32)), .val (.int (0 : Int32)), .val (.int (1 : Int32)), .val (.int (1 : Int32)), .val (.int (1 : Int32)), .unset, .unset, .unset] [(.int (1 : Int32)), (.ref nb4)])
                  obtain ⟨cq103, kq103, q103a, q103b, q103c⟩ := isOf hZ rfl Eq100
                  refine own_callV X100 hx (y := (⟨"com/example/kapu/kapu/service/Coverage$Part", "isCovered", "(Z)Z"⟩ : MethodName)) (z := (⟨"com/example/kapu/kapu/service/Coverage$Part", "isCovered", "(Z)Z"⟩ : MethodName)) hown (mvT hZ (hw _ (List.mem_of_getElem? (i := 41) rfl))) (mvT hZ (hw _ (List.mem_of_getElem? (i := 42) rfl))) (notFace_of_selects (args := #[]) (mvT hZ (hw _ (List.mem_of_getElem? (i := 44) rfl)))) (mvT hZ (hw _ (List.mem_of_getElem? (i := 44) rfl))) (mvT hZ (hw _ (List.mem_of_getElem? (i := 43) rfl))) (by decide) (backOf (W := 0) (rmV1 l Z a0 hw [] nb4 (1 : Int32) T100.heap n0 (Nat.le_trans Z0 K100.1) Fq100_2 rfl) hZ (hw _ (List.mem_of_getElem? (i := 45) rfl)) (hw _ (List.mem_of_getElem? (i := 3) rfl)) (by decide) (by decide)) q103a q103c (g := (mkF m 220 #[.val (.int ops), .val (.int c0), .val (.int c1), .val (.int flags), .val (.ref nb1), .val (.ref nb4), .val (.int (3 : Int32)), .val (.int (0 : Int32)), .val (.int (0 : Int32)), .val (.int (1 : Int32)), .val (.int (1 : Int32)), .val (.int (1 : Int32)), .unset, .unset, .unset] [(.int (1 : Int32)), (.ref nb4)])) rfl (by rw [hml]; rfl) (argsL := [(.int (1 : Int32))]) (rest := []) (lenOf pd_2 rfl) rfl (by show 2 * 0 + _ ≤ _; exact Nat.le_of_eq rfl) (hb hby at_220) rfl rfl (by decide) (by decide) ?_
                  rintro v102 T102 L102 X102 ⟨rfl, Nq102, hh102⟩
                  have N102 := Fr.app N100 Nq102
                  show own_Go p e below _ T102 (mkF m 223 #[.val (.int ops), .val (.int c0), .val (.int c1), .val (.int flags), .val (.ref nb1), .val (.ref nb4), .val (.int (3 : Int32)), .val (.int (0 : Int32)), .val (.int (0 : Int32)), .val (.int (1 : Int32)), .val (.int (1 : Int32)), .val (.int (1 : Int32)), .unset, .unset, .unset] [(.int (1 : Int32))])
                  refine own_st (fun t_ k_ => XS.istore X102.here hx rfl (hb hby at_223) rfl (l' := #[.val (.int ops), .val (.int c0), .val (.int c1), .val (.int flags), .val (.ref nb1), .val (.ref nb4), .val (.int (3 : Int32)), .val (.int (0 : Int32)), .val (.int (0 : Int32)), .val (.int (1 : Int32)), .val (.int (1 : Int32)), .val (.int (1 : Int32)), .val (.int (1 : Int32)), .unset, .unset]) rfl k_) ?_
                  show own_Go p e below _ T102 (mkF m 225 #[.val (.int ops), .val (.int c0), .val (.int c1), .val (.int flags), .val (.ref nb1), .val (.ref nb4), .val (.int (3 : Int32)), .val (.int (0 : Int32)), .val (.int (0 : Int32)), .val (.int (1 : Int32)), .val (.int (1 : Int32)), .val (.int (1 : Int32)), .val (.int (1 : Int32)), .unset, .unset] [])
                  refine own_st (fun t_ k_ => XS.aload X102.here hx rfl (hb hby at_225) rfl rfl k_) ?_
                  show own_Go p e below _ T102 (mkF m 227 #[.val (.int ops), .val (.int c0), .val (.int c1), .val (.int flags), .val (.ref nb1), .val (.ref nb4), .val (.int (3 : Int32)), .val (.int (0 : Int32)), .val (.int (0 : Int32)), .val (.int (1 : Int32)), .val (.int (1 : Int32)), .val (.int (1 : Int32)), .val (.int (1 : Int32)), .unset, .unset] [(.ref nb4)])
                  refine own_st (fun t_ k_ => XS.iconst X102.here hx rfl (hb hby at_227) k_) ?_
                  show own_Go p e below _ T102 (mkF m 228 #[.val (.int ops), .val (.int c0), .val (.int c1), .val (.int flags), .val (.ref nb1), .val (.ref nb4), .val (.int (3 : Int32)), .val (.int (0 : Int32)), .val (.int (0 : Int32)), .val (.int (1 : Int32)), .val (.int (1 : Int32)), .val (.int (1 : Int32)), .val (.int (1 : Int32)), .unset, .unset] [(.int (0 : Int32)), (.ref nb4)])
                  obtain ⟨cq105, kq105, q105a, q105b, q105c⟩ := isOf hZ hh102 Eq100
                  refine own_callV X102 hx (y := (⟨"com/example/kapu/kapu/service/Coverage$Part", "isCovered", "(Z)Z"⟩ : MethodName)) (z := (⟨"com/example/kapu/kapu/service/Coverage$Part", "isCovered", "(Z)Z"⟩ : MethodName)) hown (mvT hZ (hw _ (List.mem_of_getElem? (i := 41) rfl))) (mvT hZ (hw _ (List.mem_of_getElem? (i := 42) rfl))) (notFace_of_selects (args := #[]) (mvT hZ (hw _ (List.mem_of_getElem? (i := 44) rfl)))) (mvT hZ (hw _ (List.mem_of_getElem? (i := 44) rfl))) (mvT hZ (hw _ (List.mem_of_getElem? (i := 43) rfl))) (by decide) (backOf (W := 0) (rmV0 l Z a0 hw [] nb4 (1 : Int32) T100.heap n0 (Nat.le_trans Z0 K100.1) Fq100_3 rfl) hZ (hw _ (List.mem_of_getElem? (i := 45) rfl)) (hw _ (List.mem_of_getElem? (i := 3) rfl)) (by decide) (by decide)) q105a q105c (g := (mkF m 228 #[.val (.int ops), .val (.int c0), .val (.int c1), .val (.int flags), .val (.ref nb1), .val (.ref nb4), .val (.int (3 : Int32)), .val (.int (0 : Int32)), .val (.int (0 : Int32)), .val (.int (1 : Int32)), .val (.int (1 : Int32)), .val (.int (1 : Int32)), .val (.int (1 : Int32)), .unset, .unset] [(.int (0 : Int32)), (.ref nb4)])) rfl (by rw [hml]; rfl) (argsL := [(.int (0 : Int32))]) (rest := []) (lenOf pd_2 rfl) rfl (by show 2 * 0 + _ ≤ _; exact Nat.le_of_eq rfl) (hb hby at_228) rfl hh102 (by decide) (by decide) ?_
                  rintro v104 T104 L104 X104 ⟨rfl, Nq104, hh104⟩
                  have N104 := Fr.app N102 Nq104
                  show own_Go p e below _ T104 (mkF m 231 #[.val (.int ops), .val (.int c0), .val (.int c1), .val (.int flags), .val (.ref nb1), .val (.ref nb4), .val (.int (3 : Int32)), .val (.int (0 : Int32)), .val (.int (0 : Int32)), .val (.int (1 : Int32)), .val (.int (1 : Int32)), .val (.int (1 : Int32)), .val (.int (1 : Int32)), .unset, .unset] [(.int (1 : Int32))])
                  refine own_st (fun t_ k_ => XS.istore X104.here hx rfl (hb hby at_231) rfl (l' := #[.val (.int ops), .val (.int c0), .val (.int c1), .val (.int flags), .val (.ref nb1), .val (.ref nb4), .val (.int (3 : Int32)), .val (.int (0 : Int32)), .val (.int (0 : Int32)), .val (.int (1 : Int32)), .val (.int (1 : Int32)), .val (.int (1 : Int32)), .val (.int (1 : Int32)), .val (.int (1 : Int32)), .unset]) rfl k_) ?_
                  show own_Go p e below _ T104 (mkF m 233 #[.val (.int ops), .val (.int c0), .val (.int c1), .val (.int flags), .val (.ref nb1), .val (.ref nb4), .val (.int (3 : Int32)), .val (.int (0 : Int32)), .val (.int (0 : Int32)), .val (.int (1 : Int32)), .val (.int (1 : Int32)), .val (.int (1 : Int32)), .val (.int (1 : Int32)), .val (.int (1 : Int32)), .unset] [])
                  refine own_st (fun t_ k_ => XS.aload X104.here hx rfl (hb hby at_233) rfl rfl k_) ?_
                  show own_Go p e below _ T104 (mkF m 235 #[.val (.int ops), .val (.int c0), .val (.int c1), .val (.int flags), .val (.ref nb1), .val (.ref nb4), .val (.int (3 : Int32)), .val (.int (0 : Int32)), .val (.int (0 : Int32)), .val (.int (1 : Int32)), .val (.int (1 : Int32)), .val (.int (1 : Int32)), .val (.int (1 : Int32)), .val (.int (1 : Int32)), .unset] [(.ref nb4)])
                  refine own_st (fun t_ k_ => XS.iconst X104.here hx rfl (hb hby at_235) k_) ?_
                  show own_Go p e below _ T104 (mkF m 236 #[.val (.int ops), .val (.int c0), .val (.int c1), .val (.int flags), .val (.ref nb1), .val (.ref nb4), .val (.int (3 : Int32)), .val (.int (0 : Int32)), .val (.int (0 : Int32)), .val (.int (1 : Int32)), .val (.int (1 : Int32)), .val (.int (1 : Int32)), .val (.int (1 : Int32)), .val (.int (1 : Int32)), .unset] [(.int (1 : Int32)), (.ref nb4)])
                  obtain ⟨cq107, kq107, q107a, q107b, q107c⟩ := isOf hZ hh104 Eq100
                  refine own_callV X104 hx (y := (⟨"com/example/kapu/kapu/service/Coverage$Part", "isCovered", "(Z)Z"⟩ : MethodName)) (z := (⟨"com/example/kapu/kapu/service/Coverage$Part", "isCovered", "(Z)Z"⟩ : MethodName)) hown (mvT hZ (hw _ (List.mem_of_getElem? (i := 41) rfl))) (mvT hZ (hw _ (List.mem_of_getElem? (i := 42) rfl))) (notFace_of_selects (args := #[]) (mvT hZ (hw _ (List.mem_of_getElem? (i := 44) rfl)))) (mvT hZ (hw _ (List.mem_of_getElem? (i := 44) rfl))) (mvT hZ (hw _ (List.mem_of_getElem? (i := 43) rfl))) (by decide) (backOf (W := 0) (rmV1 l Z a0 hw [] nb4 (1 : Int32) T100.heap n0 (Nat.le_trans Z0 K100.1) Fq100_2 rfl) hZ (hw _ (List.mem_of_getElem? (i := 45) rfl)) (hw _ (List.mem_of_getElem? (i := 3) rfl)) (by decide) (by decide)) q107a q107c (g := (mkF m 236 #[.val (.int ops), .val (.int c0), .val (.int c1), .val (.int flags), .val (.ref nb1), .val (.ref nb4), .val (.int (3 : Int32)), .val (.int (0 : Int32)), .val (.int (0 : Int32)), .val (.int (1 : Int32)), .val (.int (1 : Int32)), .val (.int (1 : Int32)), .val (.int (1 : Int32)), .val (.int (1 : Int32)), .unset] [(.int (1 : Int32)), (.ref nb4)])) rfl (by rw [hml]; rfl) (argsL := [(.int (1 : Int32))]) (rest := []) (lenOf pd_2 rfl) rfl (by show 2 * 0 + _ ≤ _; exact Nat.le_of_eq rfl) (hb hby at_236) rfl hh104 (by decide) (by decide) ?_
                  rintro v106 T106 L106 X106 ⟨rfl, Nq106, hh106⟩
                  have N106 := Fr.app N104 Nq106
                  show own_Go p e below _ T106 (mkF m 239 #[.val (.int ops), .val (.int c0), .val (.int c1), .val (.int flags), .val (.ref nb1), .val (.ref nb4), .val (.int (3 : Int32)), .val (.int (0 : Int32)), .val (.int (0 : Int32)), .val (.int (1 : Int32)), .val (.int (1 : Int32)), .val (.int (1 : Int32)), .val (.int (1 : Int32)), .val (.int (1 : Int32)), .unset] [(.int (1 : Int32))])
                  refine own_st (fun t_ k_ => XS.istore X106.here hx rfl (hb hby at_239) rfl (l' := #[.val (.int ops), .val (.int c0), .val (.int c1), .val (.int flags), .val (.ref nb1), .val (.ref nb4), .val (.int (3 : Int32)), .val (.int (0 : Int32)), .val (.int (0 : Int32)), .val (.int (1 : Int32)), .val (.int (1 : Int32)), .val (.int (1 : Int32)), .val (.int (1 : Int32)), .val (.int (1 : Int32)), .val (.int (1 : Int32))]) rfl k_) ?_
                  show own_Go p e below _ T106 (mkF m 241 #[.val (.int ops), .val (.int c0), .val (.int c1), .val (.int flags), .val (.ref nb1), .val (.ref nb4), .val (.int (3 : Int32)), .val (.int (0 : Int32)), .val (.int (0 : Int32)), .val (.int (1 : Int32)), .val (.int (1 : Int32)), .val (.int (1 : Int32)), .val (.int (1 : Int32)), .val (.int (1 : Int32)), .val (.int (1 : Int32))] [])
                  refine own_st (fun t_ k_ => XS.iload X106.here hx rfl (hb hby at_241) rfl k_) ?_
                  show own_Go p e below _ T106 (mkF m 243 #[.val (.int ops), .val (.int c0), .val (.int c1), .val (.int flags), .val (.ref nb1), .val (.ref nb4), .val (.int (3 : Int32)), .val (.int (0 : Int32)), .val (.int (0 : Int32)), .val (.int (1 : Int32)), .val (.int (1 : Int32)), .val (.int (1 : Int32)), .val (.int (1 : Int32)), .val (.int (1 : Int32)), .val (.int (1 : Int32))] [(.int (1 : Int32))])
                  refine own_st (fun t_ k_ => XS.iload X106.here hx rfl (hb hby at_243) rfl k_) ?_
                  show own_Go p e below _ T106 (mkF m 245 #[.val (.int ops), .val (.int c0), .val (.int c1), .val (.int flags), .val (.ref nb1), .val (.ref nb4), .val (.int (3 : Int32)), .val (.int (0 : Int32)), .val (.int (0 : Int32)), .val (.int (1 : Int32)), .val (.int (1 : Int32)), .val (.int (1 : Int32)), .val (.int (1 : Int32)), .val (.int (1 : Int32)), .val (.int (1 : Int32))] [(.int (1 : Int32)), (.int (1 : Int32))])
                  refine own_st (fun t_ k_ => XS.icmpNo X106.here hx rfl (hb hby at_245) rfl (by decide) k_) ?_
                  show own_Go p e below _ T106 (mkF m 248 #[.val (.int ops), .val (.int c0), .val (.int c1), .val (.int flags), .val (.ref nb1), .val (.ref nb4), .val (.int (3 : Int32)), .val (.int (0 : Int32)), .val (.int (0 : Int32)), .val (.int (1 : Int32)), .val (.int (1 : Int32)), .val (.int (1 : Int32)), .val (.int (1 : Int32)), .val (.int (1 : Int32)), .val (.int (1 : Int32))] [])
                  refine own_st (fun t_ k_ => XS.iload X106.here hx rfl (hb hby at_248) rfl k_) ?_
                  show own_Go p e below _ T106 (mkF m 250 #[.val (.int ops), .val (.int c0), .val (.int c1), .val (.int flags), .val (.ref nb1), .val (.ref nb4), .val (.int (3 : Int32)), .val (.int (0 : Int32)), .val (.int (0 : Int32)), .val (.int (1 : Int32)), .val (.int (1 : Int32)), .val (.int (1 : Int32)), .val (.int (1 : Int32)), .val (.int (1 : Int32)), .val (.int (1 : Int32))] [(.int (1 : Int32))])
                  refine own_st (fun t_ k_ => XS.iload X106.here hx rfl (hb hby at_250) rfl k_) ?_
                  show own_Go p e below _ T106 (mkF m 252 #[.val (.int ops), .val (.int c0), .val (.int c1), .val (.int flags), .val (.ref nb1), .val (.ref nb4), .val (.int (3 : Int32)), .val (.int (0 : Int32)), .val (.int (0 : Int32)), .val (.int (1 : Int32)), .val (.int (1 : Int32)), .val (.int (1 : Int32)), .val (.int (1 : Int32)), .val (.int (1 : Int32)), .val (.int (1 : Int32))] [(.int (1 : Int32)), (.int (1 : Int32))])
                  refine own_st (fun t_ k_ => XS.icmpNo X106.here hx rfl (hb hby at_252) rfl (by decide) k_) ?_
                  show own_Go p e below _ T106 (mkF m 255 #[.val (.int ops), .val (.int c0), .val (.int c1), .val (.int flags), .val (.ref nb1), .val (.ref nb4), .val (.int (3 : Int32)), .val (.int (0 : Int32)), .val (.int (0 : Int32)), .val (.int (1 : Int32)), .val (.int (1 : Int32)), .val (.int (1 : Int32)), .val (.int (1 : Int32)), .val (.int (1 : Int32)), .val (.int (1 : Int32))] [])
                  refine own_st (fun t_ k_ => XS.iload X106.here hx rfl (hb hby at_255) rfl k_) ?_
                  show own_Go p e below _ T106 (mkF m 257 #[.val (.int ops), .val (.int c0), .val (.int c1), .val (.int flags), .val (.ref nb1), .val (.ref nb4), .val (.int (3 : Int32)), .val (.int (0 : Int32)), .val (.int (0 : Int32)), .val (.int (1 : Int32)), .val (.int (1 : Int32)), .val (.int (1 : Int32)), .val (.int (1 : Int32)), .val (.int (1 : Int32)), .val (.int (1 : Int32))] [(.int (1 : Int32))])
                  refine own_st (fun t_ k_ => XS.iload X106.here hx rfl (hb hby at_257) rfl k_) ?_
                  show own_Go p e below _ T106 (mkF m 259 #[.val (.int ops), .val (.int c0), .val (.int c1), .val (.int flags), .val (.ref nb1), .val (.ref nb4), .val (.int (3 : Int32)), .val (.int (0 : Int32)), .val (.int (0 : Int32)), .val (.int (1 : Int32)), .val (.int (1 : Int32)), .val (.int (1 : Int32)), .val (.int (1 : Int32)), .val (.int (1 : Int32)), .val (.int (1 : Int32))] [(.int (1 : Int32)), (.int (1 : Int32))])
                  refine own_st (fun t_ k_ => XS.icmpNo X106.here hx rfl (hb hby at_259) rfl (by decide) k_) ?_
                  show own_Go p e below _ T106 (mkF m 262 #[.val (.int ops), .val (.int c0), .val (.int c1), .val (.int flags), .val (.ref nb1), .val (.ref nb4), .val (.int (3 : Int32)), .val (.int (0 : Int32)), .val (.int (0 : Int32)), .val (.int (1 : Int32)), .val (.int (1 : Int32)), .val (.int (1 : Int32)), .val (.int (1 : Int32)), .val (.int (1 : Int32)), .val (.int (1 : Int32))] [])
                  refine own_st (fun t_ k_ => XS.iconst X106.here hx rfl (hb hby at_262) k_) ?_
                  show own_Go p e below _ T106 (mkF m 263 #[.val (.int ops), .val (.int c0), .val (.int c1), .val (.int flags), .val (.ref nb1), .val (.ref nb4), .val (.int (3 : Int32)), .val (.int (0 : Int32)), .val (.int (0 : Int32)), .val (.int (1 : Int32)), .val (.int (1 : Int32)), .val (.int (1 : Int32)), .val (.int (1 : Int32)), .val (.int (1 : Int32)), .val (.int (1 : Int32))] [(.int (1 : Int32))])
                  refine own_st (fun t_ k_ => XS.goto X106.here hx rfl (pc0 := 263) (pc' := 267) rfl (hb hby at_263) (by decide) (by decide) k_) ?_
                  show own_Go p e below _ T106 (mkF m 267 #[.val (.int ops), .val (.int c0), .val (.int c1), .val (.int flags), .val (.ref nb1), .val (.ref nb4), .val (.int (3 : Int32)), .val (.int (0 : Int32)), .val (.int (0 : Int32)), .val (.int (1 : Int32)), .val (.int (1 : Int32)), .val (.int (1 : Int32)), .val (.int (1 : Int32)), .val (.int (1 : Int32)), .val (.int (1 : Int32))] [(.int (1 : Int32))])
                  refine own_retN X106 hx hlk (t := .boolean) Bd.returns (by simp) (hb hby at_267) ?_ (by decide) (by decide)
                  show Q0 n0 _ T106.heap _
                  rw [hh106]
                  exact ⟨rfl, N106⟩
              · show own_Go p e below _ T88 (mkF m 121 #[.val (.int ops), .val (.int c0), .val (.int c1), .val (.int flags), .val (.ref nb1), .val (.ref nb4), .val (.int (3 : Int32)), .val (.int (0 : Int32)), .val (.int (1 : Int32)), .val (.int b2), .unset, .unset, .unset, .unset, .unset] [(.int (1 : Int32)), (.ref nb4)])
                obtain ⟨cq109, kq109, q109a, q109b, q109c⟩ := isOf hZ rfl Eq88
                refine own_callV X88 hx (y := (⟨"com/example/kapu/kapu/service/Coverage$Part", "cover", "(Z)V"⟩ : MethodName)) (z := (⟨"com/example/kapu/kapu/service/Coverage$Part", "cover", "(Z)V"⟩ : MethodName)) hown (mvT hZ (hw _ (List.mem_of_getElem? (i := 50) rfl))) (mvT hZ (hw _ (List.mem_of_getElem? (i := 51) rfl))) (notFace_of_selects (args := #[]) (mvT hZ (hw _ (List.mem_of_getElem? (i := 53) rfl)))) (mvT hZ (hw _ (List.mem_of_getElem? (i := 53) rfl))) (mvT hZ (hw _ (List.mem_of_getElem? (i := 52) rfl))) (by decide) (backOf (W := 0) (rmC1 l Z a0 hw [] nb4 nb5 bz (0 : Int32) (1 : Int32) T88.heap n0 (Nat.le_trans Z0 K88.1) g_nb4 Eq88 Fq88_0 Fq88_1 Fq88_2 Fq88_3) hZ (hw _ (List.mem_of_getElem? (i := 54) rfl)) (hw _ (List.mem_of_getElem? (i := 3) rfl)) (by decide) (by decide)) q109a q109c (g := (mkF m 121 #[.val (.int ops), .val (.int c0), .val (.int c1), .val (.int flags), .val (.ref nb1), .val (.ref nb4), .val (.int (3 : Int32)), .val (.int (0 : Int32)), .val (.int (1 : Int32)), .val (.int b2), .unset, .unset, .unset, .unset, .unset] [(.int (1 : Int32)), (.ref nb4)])) rfl (by rw [hml]; rfl) (argsL := [(.int (1 : Int32))]) (rest := []) (lenOf pd_3 rfl) rfl (by show 2 * 0 + _ ≤ _; exact Nat.le_of_eq rfl) (hb hby at_121) rfl rfl (by decide) (by decide) ?_
                rintro v108 T108 L108 X108 ⟨rfl, Nq108, Kq108, Eq108, Fq108_0, Fq108_1, Fq108_2, Fq108_3⟩
                have N108 := Fr.app N88 Nq108
                have K108 : Keep h0 T108.heap [] := K88.trans Kq108 (allS (Or.inr sz_nb4) all0)
                show own_Go p e below _ T108 (mkF m 124 #[.val (.int ops), .val (.int c0), .val (.int c1), .val (.int flags), .val (.ref nb1), .val (.ref nb4), .val (.int (3 : Int32)), .val (.int (0 : Int32)), .val (.int (1 : Int32)), .val (.int b2), .unset, .unset, .unset, .unset, .unset] [])
                refine own_st (fun t_ k_ => XS.iload X108.here hx rfl (hb hby at_124) rfl k_) ?_
                show own_Go p e below _ T108 (mkF m 126 #[.val (.int ops), .val (.int c0), .val (.int c1), .val (.int flags), .val (.ref nb1), .val (.ref nb4), .val (.int (3 : Int32)), .val (.int (0 : Int32)), .val (.int (1 : Int32)), .val (.int b2), .unset, .unset, .unset, .unset, .unset] [(.int (3 : Int32))])
                refine own_st (fun t_ k_ => XS.iconst X108.here hx rfl (hb hby at_126) k_) ?_
                show own_Go p e below _ T108 (mkF m 127 #[.val (.int ops), .val (.int c0), .val (.int c1), .val (.int flags), .val (.ref nb1), .val (.ref nb4), .val (.int (3 : Int32)), .val (.int (0 : Int32)), .val (.int (1 : Int32)), .val (.int b2), .unset, .unset, .unset, .unset, .unset] [(.int (3 : Int32)), (.int (3 : Int32))])
                refine own_st (fun t_ k_ => XS.icmpNo X108.here hx rfl (hb hby at_127) rfl (by decide) k_) ?_
                show own_Go p e below _ T108 (mkF m 130 #[.val (.int ops), .val (.int c0), .val (.int c1), .val (.int flags), .val (.ref nb1), .val (.ref nb4), .val (.int (3 : Int32)), .val (.int (0 : Int32)), .val (.int (1 : Int32)), .val (.int b2), .unset, .unset, .unset, .unset, .unset] [])
                refine own_st (fun t_ k_ => XS.aload X108.here hx rfl (hb hby at_130) rfl rfl k_) ?_
                show own_Go p e below _ T108 (mkF m 132 #[.val (.int ops), .val (.int c0), .val (.int c1), .val (.int flags), .val (.ref nb1), .val (.ref nb4), .val (.int (3 : Int32)), .val (.int (0 : Int32)), .val (.int (1 : Int32)), .val (.int b2), .unset, .unset, .unset, .unset, .unset] [(.ref nb4)])
                refine own_st (fun t_ k_ => XS.iload X108.here hx rfl (hb hby at_132) rfl k_) ?_
                show own_Go p e below _ T108 (mkF m 134 #[.val (.int ops), .val (.int c0), .val (.int c1), .val (.int flags), .val (.ref nb1), .val (.ref nb4), .val (.int (3 : Int32)), .val (.int (0 : Int32)), .val (.int (1 : Int32)), .val (.int b2), .unset, .unset, .unset, .unset, .unset] [(.int b2), (.ref nb4)])
                rcases (h_b2 : b2 = (0 : Int32) ∨ b2 = (1 : Int32)) with rfl | rfl
                · show own_Go p e below _ T108 (mkF m 134 #[.val (.int ops), .val (.int c0), .val (.int c1), .val (.int flags), .val (.ref nb1), .val (.ref nb4), .val (.int (3 : Int32)), .val (.int (0 : Int32)), .val (.int (1 : Int32)), .val (.int (0 : Int32)), .unset, .unset, .unset, .unset, .unset] [(.int (0 : Int32)), (.ref nb4)])
                  obtain ⟨cq111, kq111, q111a, q111b, q111c⟩ := isOf hZ rfl Eq108
                  refine own_callV X108 hx (y := (⟨"com/example/kapu/kapu/service/Coverage$Part", "cover", "(Z)V"⟩ : MethodName)) (z := (⟨"com/example/kapu/kapu/service/Coverage$Part", "cover", "(Z)V"⟩ : MethodName)) hown (mvT hZ (hw _ (List.mem_of_getElem? (i := 50) rfl))) (mvT hZ (hw _ (List.mem_of_getElem? (i := 51) rfl))) (notFace_of_selects (args := #[]) (mvT hZ (hw _ (List.mem_of_getElem? (i := 53) rfl)))) (mvT hZ (hw _ (List.mem_of_getElem? (i := 53) rfl))) (mvT hZ (hw _ (List.mem_of_getElem? (i := 52) rfl))) (by decide) (backOf (W := 0) (rmC0 l Z a0 hw [] nb4 nb5 bz (1 : Int32) (1 : Int32) T108.heap n0 (Nat.le_trans Z0 K108.1) g_nb4 Eq108 Fq108_0 Fq108_1 Fq108_2 Fq108_3) hZ (hw _ (List.mem_of_getElem? (i := 54) rfl)) (hw _ (List.mem_of_getElem? (i := 3) rfl)) (by decide) (by decide)) q111a q111c (g := (mkF m 134 #[.val (.int ops), .val (.int c0), .val (.int c1), .val (.int flags), .val (.ref nb1), .val (.ref nb4), .val (.int (3 : Int32)), .val (.int (0 : Int32)), .val (.int (1 : Int32)), .val (.int (0 : Int32)), .unset, .unset, .unset, .unset, .unset] [(.int (0 : Int32)), (.ref nb4)])) rfl (by rw [hml]; rfl) (argsL := [(.int (0 : Int32))]) (rest := []) (lenOf pd_3 rfl) rfl (by show 2 * 0 + _ ≤ _; exact Nat.le_of_eq rfl) (hb hby at_134) rfl rfl (by decide) (by decide) ?_
                  rintro v110 T110 L110 X110 ⟨rfl, Nq110, Kq110, Eq110, Fq110_0, Fq110_1, Fq110_2, Fq110_3⟩
                  have N110 := Fr.app N108 Nq110
                  have K110 : Keep h0 T110.heap [] := K108.trans Kq110 (allS (Or.inr sz_nb4) all0)
                  show own_Go p e below _ T110 (mkF m 137 #[.val (.int ops), .val (.int c0), .val (.int c1), .val (.int flags), .val (.ref nb1), .val (.ref nb4), .val (.int (3 : Int32)), .val (.int (0 : Int32)), .val (.int (1 : Int32)), .val (.int (0 : Int32)), .unset, .unset, .unset, .unset, .unset] [])
                  refine own_st (fun t_ k_ => XS.iload X110.here hx rfl (hb hby at_137) rfl k_) ?_
                  show own_Go p e below _ T110 (mkF m 139 #[.val (.int ops), .val (.int c0), .val (.int c1), .val (.int flags), .val (.ref nb1), .val (.ref nb4), .val (.int (3 : Int32)), .val (.int (0 : Int32)), .val (.int (1 : Int32)), .val (.int (0 : Int32)), .unset, .unset, .unset, .unset, .unset] [(.int (3 : Int32))])
                  refine own_st (fun t_ k_ => XS.iconst X110.here hx rfl (hb hby at_139) k_) ?_
                  show own_Go p e below _ T110 (mkF m 140 #[.val (.int ops), .val (.int c0), .val (.int c1), .val (.int flags), .val (.ref nb1), .val (.ref nb4), .val (.int (3 : Int32)), .val (.int (0 : Int32)), .val (.int (1 : Int32)), .val (.int (0 : Int32)), .unset, .unset, .unset, .unset, .unset] [(.int (1 : Int32)), (.int (3 : Int32))])
                  refine own_st (fun t_ k_ => XS.icmpNo X110.here hx rfl (hb hby at_140) rfl (by decide) k_) ?_
                  show own_Go p e below _ T110 (mkF m 143 #[.val (.int ops), .val (.int c0), .val (.int c1), .val (.int flags), .val (.ref nb1), .val (.ref nb4), .val (.int (3 : Int32)), .val (.int (0 : Int32)), .val (.int (1 : Int32)), .val (.int (0 : Int32)), .unset, .unset, .unset, .unset, .unset] [])
                  refine own_st (fun t_ k_ => XS.iload X110.here hx rfl (hb hby at_143) rfl k_) ?_
                  show own_Go p e below _ T110 (mkF m 145 #[.val (.int ops), .val (.int c0), .val (.int c1), .val (.int flags), .val (.ref nb1), .val (.ref nb4), .val (.int (3 : Int32)), .val (.int (0 : Int32)), .val (.int (1 : Int32)), .val (.int (0 : Int32)), .unset, .unset, .unset, .unset, .unset] [(.int (0 : Int32))])
                  refine own_st (fun t_ k_ => XS.ifNo X110.here hx rfl (hb hby at_145) rfl (by decide) k_) ?_
                  show own_Go p e below _ T110 (mkF m 148 #[.val (.int ops), .val (.int c0), .val (.int c1), .val (.int flags), .val (.ref nb1), .val (.ref nb4), .val (.int (3 : Int32)), .val (.int (0 : Int32)), .val (.int (1 : Int32)), .val (.int (0 : Int32)), .unset, .unset, .unset, .unset, .unset] [])
                  refine own_st (fun t_ k_ => XS.iload X110.here hx rfl (hb hby at_148) rfl k_) ?_
                  show own_Go p e below _ T110 (mkF m 150 #[.val (.int ops), .val (.int c0), .val (.int c1), .val (.int flags), .val (.ref nb1), .val (.ref nb4), .val (.int (3 : Int32)), .val (.int (0 : Int32)), .val (.int (1 : Int32)), .val (.int (0 : Int32)), .unset, .unset, .unset, .unset, .unset] [(.int (3 : Int32))])
                  refine own_st (fun t_ k_ => XS.iconst X110.here hx rfl (hb hby at_150) k_) ?_
                  show own_Go p e below _ T110 (mkF m 151 #[.val (.int ops), .val (.int c0), .val (.int c1), .val (.int flags), .val (.ref nb1), .val (.ref nb4), .val (.int (3 : Int32)), .val (.int (0 : Int32)), .val (.int (1 : Int32)), .val (.int (0 : Int32)), .unset, .unset, .unset, .unset, .unset] [(.int (2 : Int32)), (.int (3 : Int32))])
                  refine own_st (fun t_ k_ => XS.icmpNo X110.here hx rfl (hb hby at_151) rfl (by decide) k_) ?_
                  show own_Go p e below _ T110 (mkF m 154 #[.val (.int ops), .val (.int c0), .val (.int c1), .val (.int flags), .val (.ref nb1), .val (.ref nb4), .val (.int (3 : Int32)), .val (.int (0 : Int32)), .val (.int (1 : Int32)), .val (.int (0 : Int32)), .unset, .unset, .unset, .unset, .unset] [])
                  refine own_st (fun t_ k_ => XS.iload X110.here hx rfl (hb hby at_154) rfl k_) ?_
                  show own_Go p e below _ T110 (mkF m 156 #[.val (.int ops), .val (.int c0), .val (.int c1), .val (.int flags), .val (.ref nb1), .val (.ref nb4), .val (.int (3 : Int32)), .val (.int (0 : Int32)), .val (.int (1 : Int32)), .val (.int (0 : Int32)), .unset, .unset, .unset, .unset, .unset] [(.int (1 : Int32))])
                  refine own_st (fun t_ k_ => XS.ifYes X110.here hx rfl (pc0 := 156) (pc' := 170) rfl (hb hby at_156) rfl (by decide) (by decide) (by decide) k_) ?_
                  show own_Go p e below _ T110 (mkF m 170 #[.val (.int ops), .val (.int c0), .val (.int c1), .val (.int flags), .val (.ref nb1), .val (.ref nb4), .val (.int (3 : Int32)), .val (.int (0 : Int32)), .val (.int (1 : Int32)), .val (.int (0 : Int32)), .unset, .unset, .unset, .unset, .unset] [])
                  refine own_st (fun t_ k_ => XS.iconst X110.here hx rfl (hb hby at_170) k_) ?_
                  show own_Go p e below _ T110 (mkF m 171 #[.val (.int ops), .val (.int c0), .val (.int c1), .val (.int flags), .val (.ref nb1), .val (.ref nb4), .val (.int (3 : Int32)), .val (.int (0 : Int32)), .val (.int (1 : Int32)), .val (.int (0 : Int32)), .unset, .unset, .unset, .unset, .unset] [(.int (1 : Int32))])
                  refine own_st (fun t_ k_ => XS.goto X110.here hx rfl (pc0 := 171) (pc' := 175) rfl (hb hby at_171) (by decide) (by decide) k_) ?_
                  show own_Go p e below _ T110 (mkF m 175 #[.val (.int ops), .val (.int c0), .val (.int c1), .val (.int flags), .val (.ref nb1), .val (.ref nb4), .val (.int (3 : Int32)), .val (.int (0 : Int32)), .val (.int (1 : Int32)), .val (.int (0 : Int32)), .unset, .unset, .unset, .unset, .unset] [(.int (1 : Int32))])
                  refine own_st (fun t_ k_ => XS.istore X110.here hx rfl (hb hby at_175) rfl (l' := #[.val (.int ops), .val (.int c0), .val (.int c1), .val (.int flags), .val (.ref nb1), .val (.ref nb4), .val (.int (3 : Int32)), .val (.int (0 : Int32)), .val (.int (1 : Int32)), .val (.int (0 : Int32)), .val (.int (1 : Int32)), .unset, .unset, .unset, .unset]) rfl k_) ?_
                  show own_Go p e below _ T110 (mkF m 177 #[.val (.int ops), .val (.int c0), .val (.int c1), .val (.int flags), .val (.ref nb1), .val (.ref nb4), .val (.int (3 : Int32)), .val (.int (0 : Int32)), .val (.int (1 : Int32)), .val (.int (0 : Int32)), .val (.int (1 : Int32)), .unset, .unset, .unset, .unset] [])
                  refine own_st (fun t_ k_ => XS.iload X110.here hx rfl (hb hby at_177) rfl k_) ?_
                  show own_Go p e below _ T110 (mkF m 179 #[.val (.int ops), .val (.int c0), .val (.int c1), .val (.int flags), .val (.ref nb1), .val (.ref nb4), .val (.int (3 : Int32)), .val (.int (0 : Int32)), .val (.int (1 : Int32)), .val (.int (0 : Int32)), .val (.int (1 : Int32)), .unset, .unset, .unset, .unset] [(.int (3 : Int32))])
                  refine own_st (fun t_ k_ => XS.iconst X110.here hx rfl (hb hby at_179) k_) ?_
                  show own_Go p e below _ T110 (mkF m 180 #[.val (.int ops), .val (.int c0), .val (.int c1), .val (.int flags), .val (.ref nb1), .val (.ref nb4), .val (.int (3 : Int32)), .val (.int (0 : Int32)), .val (.int (1 : Int32)), .val (.int (0 : Int32)), .val (.int (1 : Int32)), .unset, .unset, .unset, .unset] [(.int (1 : Int32)), (.int (3 : Int32))])
                  refine own_st (fun t_ k_ => XS.icmpNo X110.here hx rfl (hb hby at_180) rfl (by decide) k_) ?_
                  show own_Go p e below _ T110 (mkF m 183 #[.val (.int ops), .val (.int c0), .val (.int c1), .val (.int flags), .val (.ref nb1), .val (.ref nb4), .val (.int (3 : Int32)), .val (.int (0 : Int32)), .val (.int (1 : Int32)), .val (.int (0 : Int32)), .val (.int (1 : Int32)), .unset, .unset, .unset, .unset] [])
                  refine own_st (fun t_ k_ => XS.iload X110.here hx rfl (hb hby at_183) rfl k_) ?_
                  show own_Go p e below _ T110 (mkF m 185 #[.val (.int ops), .val (.int c0), .val (.int c1), .val (.int flags), .val (.ref nb1), .val (.ref nb4), .val (.int (3 : Int32)), .val (.int (0 : Int32)), .val (.int (1 : Int32)), .val (.int (0 : Int32)), .val (.int (1 : Int32)), .unset, .unset, .unset, .unset] [(.int (0 : Int32))])
                  refine own_st (fun t_ k_ => XS.ifYes X110.here hx rfl (pc0 := 185) (pc' := 210) rfl (hb hby at_185) rfl (by decide) (by decide) (by decide) k_) ?_
                  show own_Go p e below _ T110 (mkF m 210 #[.val (.int ops), .val (.int c0), .val (.int c1), .val (.int flags), .val (.ref nb1), .val (.ref nb4), .val (.int (3 : Int32)), .val (.int (0 : Int32)), .val (.int (1 : Int32)), .val (.int (0 : Int32)), .val (.int (1 : Int32)), .unset, .unset, .unset, .unset] [])
                  refine own_st (fun t_ k_ => XS.iconst X110.here hx rfl (hb hby at_210) k_) ?_
                  show own_Go p e below _ T110 (mkF m 211 #[.val (.int ops), .val (.int c0), .val (.int c1), .val (.int flags), .val (.ref nb1), .val (.ref nb4), .val (.int (3 : Int32)), .val (.int (0 : Int32)), .val (.int (1 : Int32)), .val (.int (0 : Int32)), .val (.int (1 : Int32)), .unset, .unset, .unset, .unset] [(.int (1 : Int32))])
                  refine own_st (fun t_ k_ => XS.goto X110.here hx rfl (pc0 := 211) (pc' := 215) rfl (hb hby at_211) (by decide) (by decide) k_) ?_
                  show own_Go p e below _ T110 (mkF m 215 #[.val (.int ops), .val (.int c0), .val (.int c1), .val (.int flags), .val (.ref nb1), .val (.ref nb4), .val (.int (3 : Int32)), .val (.int (0 : Int32)), .val (.int (1 : Int32)), .val (.int (0 : Int32)), .val (.int (1 : Int32)), .unset, .unset, .unset, .unset] [(.int (1 : Int32))])
                  refine own_st (fun t_ k_ => XS.istore X110.here hx rfl (hb hby at_215) rfl (l' := #[.val (.int ops), .val (.int c0), .val (.int c1), .val (.int flags), .val (.ref nb1), .val (.ref nb4), .val (.int (3 : Int32)), .val (.int (0 : Int32)), .val (.int (1 : Int32)), .val (.int (0 : Int32)), .val (.int (1 : Int32)), .val (.int (1 : Int32)), .unset, .unset, .unset]) rfl k_) ?_
                  show own_Go p e below _ T110 (mkF m 217 #[.val (.int ops), .val (.int c0), .val (.int c1), .val (.int flags), .val (.ref nb1), .val (.ref nb4), .val (.int (3 : Int32)), .val (.int (0 : Int32)), .val (.int (1 : Int32)), .val (.int (0 : Int32)), .val (.int (1 : Int32)), .val (.int (1 : Int32)), .unset, .unset, .unset] [])
                  refine own_st (fun t_ k_ => XS.aload X110.here hx rfl (hb hby at_217) rfl rfl k_) ?_
                  show own_Go p e below _ T110 (mkF m 219 #[.val (.int ops), .val (.int c0), .val (.int c1), .val (.int flags), .val (.ref nb1), .val (.ref nb4), .val (.int (3 : Int32)), .val (.int (0 : Int32)), .val (.int (1 : Int32)), .val (.int (0 : Int32)), .val (.int (1 : Int32)), .val (.int (1 : Int32)), .unset, .unset, .unset] [(.ref nb4)])
                  refine own_st (fun t_ k_ => XS.iconst X110.here hx rfl (hb hby at_219) k_) ?_
                  show own_Go p e below _ T110 (mkF m 220 #[.val (.int ops), .val (.int c0), .val (.int c1), .val (.int flags), .val (.ref nb1), .val (.ref nb4), .val (.int (3 : Int32)), .val (.int (0 : Int32)), .val (.int (1 : Int32)), .val (.int (0 : Int32)), .val (.int (1 : Int32)), .val (.int (1 : Int32)), .unset, .unset, .unset] [(.int (1 : Int32)), (.ref nb4)])
                  obtain ⟨cq113, kq113, q113a, q113b, q113c⟩ := isOf hZ rfl Eq110
                  refine own_callV X110 hx (y := (⟨"com/example/kapu/kapu/service/Coverage$Part", "isCovered", "(Z)Z"⟩ : MethodName)) (z := (⟨"com/example/kapu/kapu/service/Coverage$Part", "isCovered", "(Z)Z"⟩ : MethodName)) hown (mvT hZ (hw _ (List.mem_of_getElem? (i := 41) rfl))) (mvT hZ (hw _ (List.mem_of_getElem? (i := 42) rfl))) (notFace_of_selects (args := #[]) (mvT hZ (hw _ (List.mem_of_getElem? (i := 44) rfl)))) (mvT hZ (hw _ (List.mem_of_getElem? (i := 44) rfl))) (mvT hZ (hw _ (List.mem_of_getElem? (i := 43) rfl))) (by decide) (backOf (W := 0) (rmV1 l Z a0 hw [] nb4 (1 : Int32) T110.heap n0 (Nat.le_trans Z0 K110.1) Fq110_2 rfl) hZ (hw _ (List.mem_of_getElem? (i := 45) rfl)) (hw _ (List.mem_of_getElem? (i := 3) rfl)) (by decide) (by decide)) q113a q113c (g := (mkF m 220 #[.val (.int ops), .val (.int c0), .val (.int c1), .val (.int flags), .val (.ref nb1), .val (.ref nb4), .val (.int (3 : Int32)), .val (.int (0 : Int32)), .val (.int (1 : Int32)), .val (.int (0 : Int32)), .val (.int (1 : Int32)), .val (.int (1 : Int32)), .unset, .unset, .unset] [(.int (1 : Int32)), (.ref nb4)])) rfl (by rw [hml]; rfl) (argsL := [(.int (1 : Int32))]) (rest := []) (lenOf pd_2 rfl) rfl (by show 2 * 0 + _ ≤ _; exact Nat.le_of_eq rfl) (hb hby at_220) rfl rfl (by decide) (by decide) ?_
                  rintro v112 T112 L112 X112 ⟨rfl, Nq112, hh112⟩
                  have N112 := Fr.app N110 Nq112
                  show own_Go p e below _ T112 (mkF m 223 #[.val (.int ops), .val (.int c0), .val (.int c1), .val (.int flags), .val (.ref nb1), .val (.ref nb4), .val (.int (3 : Int32)), .val (.int (0 : Int32)), .val (.int (1 : Int32)), .val (.int (0 : Int32)), .val (.int (1 : Int32)), .val (.int (1 : Int32)), .unset, .unset, .unset] [(.int (1 : Int32))])
                  refine own_st (fun t_ k_ => XS.istore X112.here hx rfl (hb hby at_223) rfl (l' := #[.val (.int ops), .val (.int c0), .val (.int c1), .val (.int flags), .val (.ref nb1), .val (.ref nb4), .val (.int (3 : Int32)), .val (.int (0 : Int32)), .val (.int (1 : Int32)), .val (.int (0 : Int32)), .val (.int (1 : Int32)), .val (.int (1 : Int32)), .val (.int (1 : Int32)), .unset, .unset]) rfl k_) ?_
                  show own_Go p e below _ T112 (mkF m 225 #[.val (.int ops), .val (.int c0), .val (.int c1), .val (.int flags), .val (.ref nb1), .val (.ref nb4), .val (.int (3 : Int32)), .val (.int (0 : Int32)), .val (.int (1 : Int32)), .val (.int (0 : Int32)), .val (.int (1 : Int32)), .val (.int (1 : Int32)), .val (.int (1 : Int32)), .unset, .unset] [])
                  refine own_st (fun t_ k_ => XS.aload X112.here hx rfl (hb hby at_225) rfl rfl k_) ?_
                  show own_Go p e below _ T112 (mkF m 227 #[.val (.int ops), .val (.int c0), .val (.int c1), .val (.int flags), .val (.ref nb1), .val (.ref nb4), .val (.int (3 : Int32)), .val (.int (0 : Int32)), .val (.int (1 : Int32)), .val (.int (0 : Int32)), .val (.int (1 : Int32)), .val (.int (1 : Int32)), .val (.int (1 : Int32)), .unset, .unset] [(.ref nb4)])
                  refine own_st (fun t_ k_ => XS.iconst X112.here hx rfl (hb hby at_227) k_) ?_
                  show own_Go p e below _ T112 (mkF m 228 #[.val (.int ops), .val (.int c0), .val (.int c1), .val (.int flags), .val (.ref nb1), .val (.ref nb4), .val (.int (3 : Int32)), .val (.int (0 : Int32)), .val (.int (1 : Int32)), .val (.int (0 : Int32)), .val (.int (1 : Int32)), .val (.int (1 : Int32)), .val (.int (1 : Int32)), .unset, .unset] [(.int (0 : Int32)), (.ref nb4)])
                  obtain ⟨cq115, kq115, q115a, q115b, q115c⟩ := isOf hZ hh112 Eq110
                  refine own_callV X112 hx (y := (⟨"com/example/kapu/kapu/service/Coverage$Part", "isCovered", "(Z)Z"⟩ : MethodName)) (z := (⟨"com/example/kapu/kapu/service/Coverage$Part", "isCovered", "(Z)Z"⟩ : MethodName)) hown (mvT hZ (hw _ (List.mem_of_getElem? (i := 41) rfl))) (mvT hZ (hw _ (List.mem_of_getElem? (i := 42) rfl))) (notFace_of_selects (args := #[]) (mvT hZ (hw _ (List.mem_of_getElem? (i := 44) rfl)))) (mvT hZ (hw _ (List.mem_of_getElem? (i := 44) rfl))) (mvT hZ (hw _ (List.mem_of_getElem? (i := 43) rfl))) (by decide) (backOf (W := 0) (rmV0 l Z a0 hw [] nb4 (1 : Int32) T110.heap n0 (Nat.le_trans Z0 K110.1) Fq110_3 rfl) hZ (hw _ (List.mem_of_getElem? (i := 45) rfl)) (hw _ (List.mem_of_getElem? (i := 3) rfl)) (by decide) (by decide)) q115a q115c (g := (mkF m 228 #[.val (.int ops), .val (.int c0), .val (.int c1), .val (.int flags), .val (.ref nb1), .val (.ref nb4), .val (.int (3 : Int32)), .val (.int (0 : Int32)), .val (.int (1 : Int32)), .val (.int (0 : Int32)), .val (.int (1 : Int32)), .val (.int (1 : Int32)), .val (.int (1 : Int32)), .unset, .unset] [(.int (0 : Int32)), (.ref nb4)])) rfl (by rw [hml]; rfl) (argsL := [(.int (0 : Int32))]) (rest := []) (lenOf pd_2 rfl) rfl (by show 2 * 0 + _ ≤ _; exact Nat.le_of_eq rfl) (hb hby at_228) rfl hh112 (by decide) (by decide) ?_
                  rintro v114 T114 L114 X114 ⟨rfl, Nq114, hh114⟩
                  have N114 := Fr.app N112 Nq114
                  show own_Go p e below _ T114 (mkF m 231 #[.val (.int ops), .val (.int c0), .val (.int c1), .val (.int flags), .val (.ref nb1), .val (.ref nb4), .val (.int (3 : Int32)), .val (.int (0 : Int32)), .val (.int (1 : Int32)), .val (.int (0 : Int32)), .val (.int (1 : Int32)), .val (.int (1 : Int32)), .val (.int (1 : Int32)), .unset, .unset] [(.int (1 : Int32))])
                  refine own_st (fun t_ k_ => XS.istore X114.here hx rfl (hb hby at_231) rfl (l' := #[.val (.int ops), .val (.int c0), .val (.int c1), .val (.int flags), .val (.ref nb1), .val (.ref nb4), .val (.int (3 : Int32)), .val (.int (0 : Int32)), .val (.int (1 : Int32)), .val (.int (0 : Int32)), .val (.int (1 : Int32)), .val (.int (1 : Int32)), .val (.int (1 : Int32)), .val (.int (1 : Int32)), .unset]) rfl k_) ?_
                  show own_Go p e below _ T114 (mkF m 233 #[.val (.int ops), .val (.int c0), .val (.int c1), .val (.int flags), .val (.ref nb1), .val (.ref nb4), .val (.int (3 : Int32)), .val (.int (0 : Int32)), .val (.int (1 : Int32)), .val (.int (0 : Int32)), .val (.int (1 : Int32)), .val (.int (1 : Int32)), .val (.int (1 : Int32)), .val (.int (1 : Int32)), .unset] [])
                  refine own_st (fun t_ k_ => XS.aload X114.here hx rfl (hb hby at_233) rfl rfl k_) ?_
                  show own_Go p e below _ T114 (mkF m 235 #[.val (.int ops), .val (.int c0), .val (.int c1), .val (.int flags), .val (.ref nb1), .val (.ref nb4), .val (.int (3 : Int32)), .val (.int (0 : Int32)), .val (.int (1 : Int32)), .val (.int (0 : Int32)), .val (.int (1 : Int32)), .val (.int (1 : Int32)), .val (.int (1 : Int32)), .val (.int (1 : Int32)), .unset] [(.ref nb4)])
                  refine own_st (fun t_ k_ => XS.iconst X114.here hx rfl (hb hby at_235) k_) ?_
                  show own_Go p e below _ T114 (mkF m 236 #[.val (.int ops), .val (.int c0), .val (.int c1), .val (.int flags), .val (.ref nb1), .val (.ref nb4), .val (.int (3 : Int32)), .val (.int (0 : Int32)), .val (.int (1 : Int32)), .val (.int (0 : Int32)), .val (.int (1 : Int32)), .val (.int (1 : Int32)), .val (.int (1 : Int32)), .val (.int (1 : Int32)), .unset] [(.int (1 : Int32)), (.ref nb4)])
                  obtain ⟨cq117, kq117, q117a, q117b, q117c⟩ := isOf hZ hh114 Eq110
                  refine own_callV X114 hx (y := (⟨"com/example/kapu/kapu/service/Coverage$Part", "isCovered", "(Z)Z"⟩ : MethodName)) (z := (⟨"com/example/kapu/kapu/service/Coverage$Part", "isCovered", "(Z)Z"⟩ : MethodName)) hown (mvT hZ (hw _ (List.mem_of_getElem? (i := 41) rfl))) (mvT hZ (hw _ (List.mem_of_getElem? (i := 42) rfl))) (notFace_of_selects (args := #[]) (mvT hZ (hw _ (List.mem_of_getElem? (i := 44) rfl)))) (mvT hZ (hw _ (List.mem_of_getElem? (i := 44) rfl))) (mvT hZ (hw _ (List.mem_of_getElem? (i := 43) rfl))) (by decide) (backOf (W := 0) (rmV1 l Z a0 hw [] nb4 (1 : Int32) T110.heap n0 (Nat.le_trans Z0 K110.1) Fq110_2 rfl) hZ (hw _ (List.mem_of_getElem? (i := 45) rfl)) (hw _ (List.mem_of_getElem? (i := 3) rfl)) (by decide) (by decide)) q117a q117c (g := (mkF m 236 #[.val (.int ops), .val (.int c0), .val (.int c1), .val (.int flags), .val (.ref nb1), .val (.ref nb4), .val (.int (3 : Int32)), .val (.int (0 : Int32)), .val (.int (1 : Int32)), .val (.int (0 : Int32)), .val (.int (1 : Int32)), .val (.int (1 : Int32)), .val (.int (1 : Int32)), .val (.int (1 : Int32)), .unset] [(.int (1 : Int32)), (.ref nb4)])) rfl (by rw [hml]; rfl) (argsL := [(.int (1 : Int32))]) (rest := []) (lenOf pd_2 rfl) rfl (by show 2 * 0 + _ ≤ _; exact Nat.le_of_eq rfl) (hb hby at_236) rfl hh114 (by decide) (by decide) ?_
                  rintro v116 T116 L116 X116 ⟨rfl, Nq116, hh116⟩
                  have N116 := Fr.app N114 Nq116
                  show own_Go p e below _ T116 (mkF m 239 #[.val (.int ops), .val (.int c0), .val (.int c1), .val (.int flags), .val (.ref nb1), .val (.ref nb4), .val (.int (3 : Int32)), .val (.int (0 : Int32)), .val (.int (1 : Int32)), .val (.int (0 : Int32)), .val (.int (1 : Int32)), .val (.int (1 : Int32)), .val (.int (1 : Int32)), .val (.int (1 : Int32)), .unset] [(.int (1 : Int32))])
                  refine own_st (fun t_ k_ => XS.istore X116.here hx rfl (hb hby at_239) rfl (l' := #[.val (.int ops), .val (.int c0), .val (.int c1), .val (.int flags), .val (.ref nb1), .val (.ref nb4), .val (.int (3 : Int32)), .val (.int (0 : Int32)), .val (.int (1 : Int32)), .val (.int (0 : Int32)), .val (.int (1 : Int32)), .val (.int (1 : Int32)), .val (.int (1 : Int32)), .val (.int (1 : Int32)), .val (.int (1 : Int32))]) rfl k_) ?_
                  show own_Go p e below _ T116 (mkF m 241 #[.val (.int ops), .val (.int c0), .val (.int c1), .val (.int flags), .val (.ref nb1), .val (.ref nb4), .val (.int (3 : Int32)), .val (.int (0 : Int32)), .val (.int (1 : Int32)), .val (.int (0 : Int32)), .val (.int (1 : Int32)), .val (.int (1 : Int32)), .val (.int (1 : Int32)), .val (.int (1 : Int32)), .val (.int (1 : Int32))] [])
                  refine own_st (fun t_ k_ => XS.iload X116.here hx rfl (hb hby at_241) rfl k_) ?_
                  show own_Go p e below _ T116 (mkF m 243 #[.val (.int ops), .val (.int c0), .val (.int c1), .val (.int flags), .val (.ref nb1), .val (.ref nb4), .val (.int (3 : Int32)), .val (.int (0 : Int32)), .val (.int (1 : Int32)), .val (.int (0 : Int32)), .val (.int (1 : Int32)), .val (.int (1 : Int32)), .val (.int (1 : Int32)), .val (.int (1 : Int32)), .val (.int (1 : Int32))] [(.int (1 : Int32))])
                  refine own_st (fun t_ k_ => XS.iload X116.here hx rfl (hb hby at_243) rfl k_) ?_
                  show own_Go p e below _ T116 (mkF m 245 #[.val (.int ops), .val (.int c0), .val (.int c1), .val (.int flags), .val (.ref nb1), .val (.ref nb4), .val (.int (3 : Int32)), .val (.int (0 : Int32)), .val (.int (1 : Int32)), .val (.int (0 : Int32)), .val (.int (1 : Int32)), .val (.int (1 : Int32)), .val (.int (1 : Int32)), .val (.int (1 : Int32)), .val (.int (1 : Int32))] [(.int (1 : Int32)), (.int (1 : Int32))])
                  refine own_st (fun t_ k_ => XS.icmpNo X116.here hx rfl (hb hby at_245) rfl (by decide) k_) ?_
                  show own_Go p e below _ T116 (mkF m 248 #[.val (.int ops), .val (.int c0), .val (.int c1), .val (.int flags), .val (.ref nb1), .val (.ref nb4), .val (.int (3 : Int32)), .val (.int (0 : Int32)), .val (.int (1 : Int32)), .val (.int (0 : Int32)), .val (.int (1 : Int32)), .val (.int (1 : Int32)), .val (.int (1 : Int32)), .val (.int (1 : Int32)), .val (.int (1 : Int32))] [])
                  refine own_st (fun t_ k_ => XS.iload X116.here hx rfl (hb hby at_248) rfl k_) ?_
                  show own_Go p e below _ T116 (mkF m 250 #[.val (.int ops), .val (.int c0), .val (.int c1), .val (.int flags), .val (.ref nb1), .val (.ref nb4), .val (.int (3 : Int32)), .val (.int (0 : Int32)), .val (.int (1 : Int32)), .val (.int (0 : Int32)), .val (.int (1 : Int32)), .val (.int (1 : Int32)), .val (.int (1 : Int32)), .val (.int (1 : Int32)), .val (.int (1 : Int32))] [(.int (1 : Int32))])
                  refine own_st (fun t_ k_ => XS.iload X116.here hx rfl (hb hby at_250) rfl k_) ?_
                  show own_Go p e below _ T116 (mkF m 252 #[.val (.int ops), .val (.int c0), .val (.int c1), .val (.int flags), .val (.ref nb1), .val (.ref nb4), .val (.int (3 : Int32)), .val (.int (0 : Int32)), .val (.int (1 : Int32)), .val (.int (0 : Int32)), .val (.int (1 : Int32)), .val (.int (1 : Int32)), .val (.int (1 : Int32)), .val (.int (1 : Int32)), .val (.int (1 : Int32))] [(.int (1 : Int32)), (.int (1 : Int32))])
                  refine own_st (fun t_ k_ => XS.icmpNo X116.here hx rfl (hb hby at_252) rfl (by decide) k_) ?_
                  show own_Go p e below _ T116 (mkF m 255 #[.val (.int ops), .val (.int c0), .val (.int c1), .val (.int flags), .val (.ref nb1), .val (.ref nb4), .val (.int (3 : Int32)), .val (.int (0 : Int32)), .val (.int (1 : Int32)), .val (.int (0 : Int32)), .val (.int (1 : Int32)), .val (.int (1 : Int32)), .val (.int (1 : Int32)), .val (.int (1 : Int32)), .val (.int (1 : Int32))] [])
                  refine own_st (fun t_ k_ => XS.iload X116.here hx rfl (hb hby at_255) rfl k_) ?_
                  show own_Go p e below _ T116 (mkF m 257 #[.val (.int ops), .val (.int c0), .val (.int c1), .val (.int flags), .val (.ref nb1), .val (.ref nb4), .val (.int (3 : Int32)), .val (.int (0 : Int32)), .val (.int (1 : Int32)), .val (.int (0 : Int32)), .val (.int (1 : Int32)), .val (.int (1 : Int32)), .val (.int (1 : Int32)), .val (.int (1 : Int32)), .val (.int (1 : Int32))] [(.int (1 : Int32))])
                  refine own_st (fun t_ k_ => XS.iload X116.here hx rfl (hb hby at_257) rfl k_) ?_
                  show own_Go p e below _ T116 (mkF m 259 #[.val (.int ops), .val (.int c0), .val (.int c1), .val (.int flags), .val (.ref nb1), .val (.ref nb4), .val (.int (3 : Int32)), .val (.int (0 : Int32)), .val (.int (1 : Int32)), .val (.int (0 : Int32)), .val (.int (1 : Int32)), .val (.int (1 : Int32)), .val (.int (1 : Int32)), .val (.int (1 : Int32)), .val (.int (1 : Int32))] [(.int (1 : Int32)), (.int (1 : Int32))])
                  refine own_st (fun t_ k_ => XS.icmpNo X116.here hx rfl (hb hby at_259) rfl (by decide) k_) ?_
                  show own_Go p e below _ T116 (mkF m 262 #[.val (.int ops), .val (.int c0), .val (.int c1), .val (.int flags), .val (.ref nb1), .val (.ref nb4), .val (.int (3 : Int32)), .val (.int (0 : Int32)), .val (.int (1 : Int32)), .val (.int (0 : Int32)), .val (.int (1 : Int32)), .val (.int (1 : Int32)), .val (.int (1 : Int32)), .val (.int (1 : Int32)), .val (.int (1 : Int32))] [])
                  refine own_st (fun t_ k_ => XS.iconst X116.here hx rfl (hb hby at_262) k_) ?_
                  show own_Go p e below _ T116 (mkF m 263 #[.val (.int ops), .val (.int c0), .val (.int c1), .val (.int flags), .val (.ref nb1), .val (.ref nb4), .val (.int (3 : Int32)), .val (.int (0 : Int32)), .val (.int (1 : Int32)), .val (.int (0 : Int32)), .val (.int (1 : Int32)), .val (.int (1 : Int32)), .val (.int (1 : Int32)), .val (.int (1 : Int32)), .val (.int (1 : Int32))] [(.int (1 : Int32))])
                  refine own_st (fun t_ k_ => XS.goto X116.here hx rfl (pc0 := 263) (pc' := 267) rfl (hb hby at_263) (by decide) (by decide) k_) ?_
                  show own_Go p e below _ T116 (mkF m 267 #[.val (.int ops), .val (.int c0), .val (.int c1), .val (.int flags), .val (.ref nb1), .val (.ref nb4), .val (.int (3 : Int32)), .val (.int (0 : Int32)), .val (.int (1 : Int32)), .val (.int (0 : Int32)), .val (.int (1 : Int32)), .val (.int (1 : Int32)), .val (.int (1 : Int32)), .val (.int (1 : Int32)), .val (.int (1 : Int32))] [(.int (1 : Int32))])
                  refine own_retN X116 hx hlk (t := .boolean) Bd.returns (by simp) (hb hby at_267) ?_ (by decide) (by decide)
                  show Q0 n0 _ T116.heap _
                  rw [hh116]
                  exact ⟨rfl, N116⟩
                · show own_Go p e below _ T108 (mkF m 134 #[.val (.int ops), .val (.int c0), .val (.int c1), .val (.int flags), .val (.ref nb1), .val (.ref nb4), .val (.int (3 : Int32)), .val (.int (0 : Int32)), .val (.int (1 : Int32)), .val (.int (1 : Int32)), .unset, .unset, .unset, .unset, .unset] [(.int (1 : Int32)), (.ref nb4)])
                  obtain ⟨cq119, kq119, q119a, q119b, q119c⟩ := isOf hZ rfl Eq108
                  refine own_callV X108 hx (y := (⟨"com/example/kapu/kapu/service/Coverage$Part", "cover", "(Z)V"⟩ : MethodName)) (z := (⟨"com/example/kapu/kapu/service/Coverage$Part", "cover", "(Z)V"⟩ : MethodName)) hown (mvT hZ (hw _ (List.mem_of_getElem? (i := 50) rfl))) (mvT hZ (hw _ (List.mem_of_getElem? (i := 51) rfl))) (notFace_of_selects (args := #[]) (mvT hZ (hw _ (List.mem_of_getElem? (i := 53) rfl)))) (mvT hZ (hw _ (List.mem_of_getElem? (i := 53) rfl))) (mvT hZ (hw _ (List.mem_of_getElem? (i := 52) rfl))) (by decide) (backOf (W := 0) (rmC1 l Z a0 hw [] nb4 nb5 bz (1 : Int32) (1 : Int32) T108.heap n0 (Nat.le_trans Z0 K108.1) g_nb4 Eq108 Fq108_0 Fq108_1 Fq108_2 Fq108_3) hZ (hw _ (List.mem_of_getElem? (i := 54) rfl)) (hw _ (List.mem_of_getElem? (i := 3) rfl)) (by decide) (by decide)) q119a q119c (g := (mkF m 134 #[.val (.int ops), .val (.int c0), .val (.int c1), .val (.int flags), .val (.ref nb1), .val (.ref nb4), .val (.int (3 : Int32)), .val (.int (0 : Int32)), .val (.int (1 : Int32)), .val (.int (1 : Int32)), .unset, .unset, .unset, .unset, .unset] [(.int (1 : Int32)), (.ref nb4)])) rfl (by rw [hml]; rfl) (argsL := [(.int (1 : Int32))]) (rest := []) (lenOf pd_3 rfl) rfl (by show 2 * 0 + _ ≤ _; exact Nat.le_of_eq rfl) (hb hby at_134) rfl rfl (by decide) (by decide) ?_
                  rintro v118 T118 L118 X118 ⟨rfl, Nq118, Kq118, Eq118, Fq118_0, Fq118_1, Fq118_2, Fq118_3⟩
                  have N118 := Fr.app N108 Nq118
                  have K118 : Keep h0 T118.heap [] := K108.trans Kq118 (allS (Or.inr sz_nb4) all0)
                  show own_Go p e below _ T118 (mkF m 137 #[.val (.int ops), .val (.int c0), .val (.int c1), .val (.int flags), .val (.ref nb1), .val (.ref nb4), .val (.int (3 : Int32)), .val (.int (0 : Int32)), .val (.int (1 : Int32)), .val (.int (1 : Int32)), .unset, .unset, .unset, .unset, .unset] [])
                  refine own_st (fun t_ k_ => XS.iload X118.here hx rfl (hb hby at_137) rfl k_) ?_
                  show own_Go p e below _ T118 (mkF m 139 #[.val (.int ops), .val (.int c0), .val (.int c1), .val (.int flags), .val (.ref nb1), .val (.ref nb4), .val (.int (3 : Int32)), .val (.int (0 : Int32)), .val (.int (1 : Int32)), .val (.int (1 : Int32)), .unset, .unset, .unset, .unset, .unset] [(.int (3 : Int32))])
                  refine own_st (fun t_ k_ => XS.iconst X118.here hx rfl (hb hby at_139) k_) ?_
                  show own_Go p e below _ T118 (mkF m 140 #[.val (.int ops), .val (.int c0), .val (.int c1), .val (.int flags), .val (.ref nb1), .val (.ref nb4), .val (.int (3 : Int32)), .val (.int (0 : Int32)), .val (.int (1 : Int32)), .val (.int (1 : Int32)), .unset, .unset, .unset, .unset, .unset] [(.int (1 : Int32)), (.int (3 : Int32))])
                  refine own_st (fun t_ k_ => XS.icmpNo X118.here hx rfl (hb hby at_140) rfl (by decide) k_) ?_
                  show own_Go p e below _ T118 (mkF m 143 #[.val (.int ops), .val (.int c0), .val (.int c1), .val (.int flags), .val (.ref nb1), .val (.ref nb4), .val (.int (3 : Int32)), .val (.int (0 : Int32)), .val (.int (1 : Int32)), .val (.int (1 : Int32)), .unset, .unset, .unset, .unset, .unset] [])
                  refine own_st (fun t_ k_ => XS.iload X118.here hx rfl (hb hby at_143) rfl k_) ?_
                  show own_Go p e below _ T118 (mkF m 145 #[.val (.int ops), .val (.int c0), .val (.int c1), .val (.int flags), .val (.ref nb1), .val (.ref nb4), .val (.int (3 : Int32)), .val (.int (0 : Int32)), .val (.int (1 : Int32)), .val (.int (1 : Int32)), .unset, .unset, .unset, .unset, .unset] [(.int (0 : Int32))])
                  refine own_st (fun t_ k_ => XS.ifNo X118.here hx rfl (hb hby at_145) rfl (by decide) k_) ?_
                  show own_Go p e below _ T118 (mkF m 148 #[.val (.int ops), .val (.int c0), .val (.int c1), .val (.int flags), .val (.ref nb1), .val (.ref nb4), .val (.int (3 : Int32)), .val (.int (0 : Int32)), .val (.int (1 : Int32)), .val (.int (1 : Int32)), .unset, .unset, .unset, .unset, .unset] [])
                  refine own_st (fun t_ k_ => XS.iload X118.here hx rfl (hb hby at_148) rfl k_) ?_
                  show own_Go p e below _ T118 (mkF m 150 #[.val (.int ops), .val (.int c0), .val (.int c1), .val (.int flags), .val (.ref nb1), .val (.ref nb4), .val (.int (3 : Int32)), .val (.int (0 : Int32)), .val (.int (1 : Int32)), .val (.int (1 : Int32)), .unset, .unset, .unset, .unset, .unset] [(.int (3 : Int32))])
                  refine own_st (fun t_ k_ => XS.iconst X118.here hx rfl (hb hby at_150) k_) ?_
                  show own_Go p e below _ T118 (mkF m 151 #[.val (.int ops), .val (.int c0), .val (.int c1), .val (.int flags), .val (.ref nb1), .val (.ref nb4), .val (.int (3 : Int32)), .val (.int (0 : Int32)), .val (.int (1 : Int32)), .val (.int (1 : Int32)), .unset, .unset, .unset, .unset, .unset] [(.int (2 : Int32)), (.int (3 : Int32))])
                  refine own_st (fun t_ k_ => XS.icmpNo X118.here hx rfl (hb hby at_151) rfl (by decide) k_) ?_
                  show own_Go p e below _ T118 (mkF m 154 #[.val (.int ops), .val (.int c0), .val (.int c1), .val (.int flags), .val (.ref nb1), .val (.ref nb4), .val (.int (3 : Int32)), .val (.int (0 : Int32)), .val (.int (1 : Int32)), .val (.int (1 : Int32)), .unset, .unset, .unset, .unset, .unset] [])
                  refine own_st (fun t_ k_ => XS.iload X118.here hx rfl (hb hby at_154) rfl k_) ?_
                  show own_Go p e below _ T118 (mkF m 156 #[.val (.int ops), .val (.int c0), .val (.int c1), .val (.int flags), .val (.ref nb1), .val (.ref nb4), .val (.int (3 : Int32)), .val (.int (0 : Int32)), .val (.int (1 : Int32)), .val (.int (1 : Int32)), .unset, .unset, .unset, .unset, .unset] [(.int (1 : Int32))])
                  refine own_st (fun t_ k_ => XS.ifYes X118.here hx rfl (pc0 := 156) (pc' := 170) rfl (hb hby at_156) rfl (by decide) (by decide) (by decide) k_) ?_
                  show own_Go p e below _ T118 (mkF m 170 #[.val (.int ops), .val (.int c0), .val (.int c1), .val (.int flags), .val (.ref nb1), .val (.ref nb4), .val (.int (3 : Int32)), .val (.int (0 : Int32)), .val (.int (1 : Int32)), .val (.int (1 : Int32)), .unset, .unset, .unset, .unset, .unset] [])
                  refine own_st (fun t_ k_ => XS.iconst X118.here hx rfl (hb hby at_170) k_) ?_
                  show own_Go p e below _ T118 (mkF m 171 #[.val (.int ops), .val (.int c0), .val (.int c1), .val (.int flags), .val (.ref nb1), .val (.ref nb4), .val (.int (3 : Int32)), .val (.int (0 : Int32)), .val (.int (1 : Int32)), .val (.int (1 : Int32)), .unset, .unset, .unset, .unset, .unset] [(.int (1 : Int32))])
                  refine own_st (fun t_ k_ => XS.goto X118.here hx rfl (pc0 := 171) (pc' := 175) rfl (hb hby at_171) (by decide) (by decide) k_) ?_
                  show own_Go p e below _ T118 (mkF m 175 #[.val (.int ops), .val (.int c0), .val (.int c1), .val (.int flags), .val (.ref nb1), .val (.ref nb4), .val (.int (3 : Int32)), .val (.int (0 : Int32)), .val (.int (1 : Int32)), .val (.int (1 : Int32)), .unset, .unset, .unset, .unset, .unset] [(.int (1 : Int32))])
                  refine own_st (fun t_ k_ => XS.istore X118.here hx rfl (hb hby at_175) rfl (l' := #[.val (.int ops), .val (.int c0), .val (.int c1), .val (.int flags), .val (.ref nb1), .val (.ref nb4), .val (.int (3 : Int32)), .val (.int (0 : Int32)), .val (.int (1 : Int32)), .val (.int (1 : Int32)), .val (.int (1 : Int32)), .unset, .unset, .unset, .unset]) rfl k_) ?_
                  show own_Go p e below _ T118 (mkF m 177 #[.val (.int ops), .val (.int c0), .val (.int c1), .val (.int flags), .val (.ref nb1), .val (.ref nb4), .val (.int (3 : Int32)), .val (.int (0 : Int32)), .val (.int (1 : Int32)), .val (.int (1 : Int32)), .val (.int (1 : Int32)), .unset, .unset, .unset, .unset] [])
                  refine own_st (fun t_ k_ => XS.iload X118.here hx rfl (hb hby at_177) rfl k_) ?_
                  show own_Go p e below _ T118 (mkF m 179 #[.val (.int ops), .val (.int c0), .val (.int c1), .val (.int flags), .val (.ref nb1), .val (.ref nb4), .val (.int (3 : Int32)), .val (.int (0 : Int32)), .val (.int (1 : Int32)), .val (.int (1 : Int32)), .val (.int (1 : Int32)), .unset, .unset, .unset, .unset] [(.int (3 : Int32))])
                  refine own_st (fun t_ k_ => XS.iconst X118.here hx rfl (hb hby at_179) k_) ?_
                  show own_Go p e below _ T118 (mkF m 180 #[.val (.int ops), .val (.int c0), .val (.int c1), .val (.int flags), .val (.ref nb1), .val (.ref nb4), .val (.int (3 : Int32)), .val (.int (0 : Int32)), .val (.int (1 : Int32)), .val (.int (1 : Int32)), .val (.int (1 : Int32)), .unset, .unset, .unset, .unset] [(.int (1 : Int32)), (.int (3 : Int32))])
                  refine own_st (fun t_ k_ => XS.icmpNo X118.here hx rfl (hb hby at_180) rfl (by decide) k_) ?_
                  show own_Go p e below _ T118 (mkF m 183 #[.val (.int ops), .val (.int c0), .val (.int c1), .val (.int flags), .val (.ref nb1), .val (.ref nb4), .val (.int (3 : Int32)), .val (.int (0 : Int32)), .val (.int (1 : Int32)), .val (.int (1 : Int32)), .val (.int (1 : Int32)), .unset, .unset, .unset, .unset] [])
                  refine own_st (fun t_ k_ => XS.iload X118.here hx rfl (hb hby at_183) rfl k_) ?_
                  show own_Go p e below _ T118 (mkF m 185 #[.val (.int ops), .val (.int c0), .val (.int c1), .val (.int flags), .val (.ref nb1), .val (.ref nb4), .val (.int (3 : Int32)), .val (.int (0 : Int32)), .val (.int (1 : Int32)), .val (.int (1 : Int32)), .val (.int (1 : Int32)), .unset, .unset, .unset, .unset] [(.int (0 : Int32))])
                  refine own_st (fun t_ k_ => XS.ifYes X118.here hx rfl (pc0 := 185) (pc' := 210) rfl (hb hby at_185) rfl (by decide) (by decide) (by decide) k_) ?_
                  show own_Go p e below _ T118 (mkF m 210 #[.val (.int ops), .val (.int c0), .val (.int c1), .val (.int flags), .val (.ref nb1), .val (.ref nb4), .val (.int (3 : Int32)), .val (.int (0 : Int32)), .val (.int (1 : Int32)), .val (.int (1 : Int32)), .val (.int (1 : Int32)), .unset, .unset, .unset, .unset] [])
                  refine own_st (fun t_ k_ => XS.iconst X118.here hx rfl (hb hby at_210) k_) ?_
                  show own_Go p e below _ T118 (mkF m 211 #[.val (.int ops), .val (.int c0), .val (.int c1), .val (.int flags), .val (.ref nb1), .val (.ref nb4), .val (.int (3 : Int32)), .val (.int (0 : Int32)), .val (.int (1 : Int32)), .val (.int (1 : Int32)), .val (.int (1 : Int32)), .unset, .unset, .unset, .unset] [(.int (1 : Int32))])
                  refine own_st (fun t_ k_ => XS.goto X118.here hx rfl (pc0 := 211) (pc' := 215) rfl (hb hby at_211) (by decide) (by decide) k_) ?_
                  show own_Go p e below _ T118 (mkF m 215 #[.val (.int ops), .val (.int c0), .val (.int c1), .val (.int flags), .val (.ref nb1), .val (.ref nb4), .val (.int (3 : Int32)), .val (.int (0 : Int32)), .val (.int (1 : Int32)), .val (.int (1 : Int32)), .val (.int (1 : Int32)), .unset, .unset, .unset, .unset] [(.int (1 : Int32))])
                  refine own_st (fun t_ k_ => XS.istore X118.here hx rfl (hb hby at_215) rfl (l' := #[.val (.int ops), .val (.int c0), .val (.int c1), .val (.int flags), .val (.ref nb1), .val (.ref nb4), .val (.int (3 : Int32)), .val (.int (0 : Int32)), .val (.int (1 : Int32)), .val (.int (1 : Int32)), .val (.int (1 : Int32)), .val (.int (1 : Int32)), .unset, .unset, .unset]) rfl k_) ?_
                  show own_Go p e below _ T118 (mkF m 217 #[.val (.int ops), .val (.int c0), .val (.int c1), .val (.int flags), .val (.ref nb1), .val (.ref nb4), .val (.int (3 : Int32)), .val (.int (0 : Int32)), .val (.int (1 : Int32)), .val (.int (1 : Int32)), .val (.int (1 : Int32)), .val (.int (1 : Int32)), .unset, .unset, .unset] [])
                  refine own_st (fun t_ k_ => XS.aload X118.here hx rfl (hb hby at_217) rfl rfl k_) ?_
                  show own_Go p e below _ T118 (mkF m 219 #[.val (.int ops), .val (.int c0), .val (.int c1), .val (.int flags), .val (.ref nb1), .val (.ref nb4), .val (.int (3 : Int32)), .val (.int (0 : Int32)), .val (.int (1 : Int32)), .val (.int (1 : Int32)), .val (.int (1 : Int32)), .val (.int (1 : Int32)), .unset, .unset, .unset] [(.ref nb4)])
                  refine own_st (fun t_ k_ => XS.iconst X118.here hx rfl (hb hby at_219) k_) ?_
                  show own_Go p e below _ T118 (mkF m 220 #[.val (.int ops), .val (.int c0), .val (.int c1), .val (.int flags), .val (.ref nb1), .val (.ref nb4), .val (.int (3 : Int32)), .val (.int (0 : Int32)), .val (.int (1 : Int32)), .val (.int (1 : Int32)), .val (.int (1 : Int32)), .val (.int (1 : Int32)), .unset, .unset, .unset] [(.int (1 : Int32)), (.ref nb4)])
                  obtain ⟨cq121, kq121, q121a, q121b, q121c⟩ := isOf hZ rfl Eq118
                  refine own_callV X118 hx (y := (⟨"com/example/kapu/kapu/service/Coverage$Part", "isCovered", "(Z)Z"⟩ : MethodName)) (z := (⟨"com/example/kapu/kapu/service/Coverage$Part", "isCovered", "(Z)Z"⟩ : MethodName)) hown (mvT hZ (hw _ (List.mem_of_getElem? (i := 41) rfl))) (mvT hZ (hw _ (List.mem_of_getElem? (i := 42) rfl))) (notFace_of_selects (args := #[]) (mvT hZ (hw _ (List.mem_of_getElem? (i := 44) rfl)))) (mvT hZ (hw _ (List.mem_of_getElem? (i := 44) rfl))) (mvT hZ (hw _ (List.mem_of_getElem? (i := 43) rfl))) (by decide) (backOf (W := 0) (rmV1 l Z a0 hw [] nb4 (1 : Int32) T118.heap n0 (Nat.le_trans Z0 K118.1) Fq118_2 rfl) hZ (hw _ (List.mem_of_getElem? (i := 45) rfl)) (hw _ (List.mem_of_getElem? (i := 3) rfl)) (by decide) (by decide)) q121a q121c (g := (mkF m 220 #[.val (.int ops), .val (.int c0), .val (.int c1), .val (.int flags), .val (.ref nb1), .val (.ref nb4), .val (.int (3 : Int32)), .val (.int (0 : Int32)), .val (.int (1 : Int32)), .val (.int (1 : Int32)), .val (.int (1 : Int32)), .val (.int (1 : Int32)), .unset, .unset, .unset] [(.int (1 : Int32)), (.ref nb4)])) rfl (by rw [hml]; rfl) (argsL := [(.int (1 : Int32))]) (rest := []) (lenOf pd_2 rfl) rfl (by show 2 * 0 + _ ≤ _; exact Nat.le_of_eq rfl) (hb hby at_220) rfl rfl (by decide) (by decide) ?_
                  rintro v120 T120 L120 X120 ⟨rfl, Nq120, hh120⟩
                  have N120 := Fr.app N118 Nq120
                  show own_Go p e below _ T120 (mkF m 223 #[.val (.int ops), .val (.int c0), .val (.int c1), .val (.int flags), .val (.ref nb1), .val (.ref nb4), .val (.int (3 : Int32)), .val (.int (0 : Int32)), .val (.int (1 : Int32)), .val (.int (1 : Int32)), .val (.int (1 : Int32)), .val (.int (1 : Int32)), .unset, .unset, .unset] [(.int (1 : Int32))])
                  refine own_st (fun t_ k_ => XS.istore X120.here hx rfl (hb hby at_223) rfl (l' := #[.val (.int ops), .val (.int c0), .val (.int c1), .val (.int flags), .val (.ref nb1), .val (.ref nb4), .val (.int (3 : Int32)), .val (.int (0 : Int32)), .val (.int (1 : Int32)), .val (.int (1 : Int32)), .val (.int (1 : Int32)), .val (.int (1 : Int32)), .val (.int (1 : Int32)), .unset, .unset]) rfl k_) ?_
                  show own_Go p e below _ T120 (mkF m 225 #[.val (.int ops), .val (.int c0), .val (.int c1), .val (.int flags), .val (.ref nb1), .val (.ref nb4), .val (.int (3 : Int32)), .val (.int (0 : Int32)), .val (.int (1 : Int32)), .val (.int (1 : Int32)), .val (.int (1 : Int32)), .val (.int (1 : Int32)), .val (.int (1 : Int32)), .unset, .unset] [])
                  refine own_st (fun t_ k_ => XS.aload X120.here hx rfl (hb hby at_225) rfl rfl k_) ?_
                  show own_Go p e below _ T120 (mkF m 227 #[.val (.int ops), .val (.int c0), .val (.int c1), .val (.int flags), .val (.ref nb1), .val (.ref nb4), .val (.int (3 : Int32)), .val (.int (0 : Int32)), .val (.int (1 : Int32)), .val (.int (1 : Int32)), .val (.int (1 : Int32)), .val (.int (1 : Int32)), .val (.int (1 : Int32)), .unset, .unset] [(.ref nb4)])
                  refine own_st (fun t_ k_ => XS.iconst X120.here hx rfl (hb hby at_227) k_) ?_
                  show own_Go p e below _ T120 (mkF m 228 #[.val (.int ops), .val (.int c0), .val (.int c1), .val (.int flags), .val (.ref nb1), .val (.ref nb4), .val (.int (3 : Int32)), .val (.int (0 : Int32)), .val (.int (1 : Int32)), .val (.int (1 : Int32)), .val (.int (1 : Int32)), .val (.int (1 : Int32)), .val (.int (1 : Int32)), .unset, .unset] [(.int (0 : Int32)), (.ref nb4)])
                  obtain ⟨cq123, kq123, q123a, q123b, q123c⟩ := isOf hZ hh120 Eq118
                  refine own_callV X120 hx (y := (⟨"com/example/kapu/kapu/service/Coverage$Part", "isCovered", "(Z)Z"⟩ : MethodName)) (z := (⟨"com/example/kapu/kapu/service/Coverage$Part", "isCovered", "(Z)Z"⟩ : MethodName)) hown (mvT hZ (hw _ (List.mem_of_getElem? (i := 41) rfl))) (mvT hZ (hw _ (List.mem_of_getElem? (i := 42) rfl))) (notFace_of_selects (args := #[]) (mvT hZ (hw _ (List.mem_of_getElem? (i := 44) rfl)))) (mvT hZ (hw _ (List.mem_of_getElem? (i := 44) rfl))) (mvT hZ (hw _ (List.mem_of_getElem? (i := 43) rfl))) (by decide) (backOf (W := 0) (rmV0 l Z a0 hw [] nb4 (1 : Int32) T118.heap n0 (Nat.le_trans Z0 K118.1) Fq118_3 rfl) hZ (hw _ (List.mem_of_getElem? (i := 45) rfl)) (hw _ (List.mem_of_getElem? (i := 3) rfl)) (by decide) (by decide)) q123a q123c (g := (mkF m 228 #[.val (.int ops), .val (.int c0), .val (.int c1), .val (.int flags), .val (.ref nb1), .val (.ref nb4), .val (.int (3 : Int32)), .val (.int (0 : Int32)), .val (.int (1 : Int32)), .val (.int (1 : Int32)), .val (.int (1 : Int32)), .val (.int (1 : Int32)), .val (.int (1 : Int32)), .unset, .unset] [(.int (0 : Int32)), (.ref nb4)])) rfl (by rw [hml]; rfl) (argsL := [(.int (0 : Int32))]) (rest := []) (lenOf pd_2 rfl) rfl (by show 2 * 0 + _ ≤ _; exact Nat.le_of_eq rfl) (hb hby at_228) rfl hh120 (by decide) (by decide) ?_
                  rintro v122 T122 L122 X122 ⟨rfl, Nq122, hh122⟩
                  have N122 := Fr.app N120 Nq122
                  show own_Go p e below _ T122 (mkF m 231 #[.val (.int ops), .val (.int c0), .val (.int c1), .val (.int flags), .val (.ref nb1), .val (.ref nb4), .val (.int (3 : Int32)), .val (.int (0 : Int32)), .val (.int (1 : Int32)), .val (.int (1 : Int32)), .val (.int (1 : Int32)), .val (.int (1 : Int32)), .val (.int (1 : Int32)), .unset, .unset] [(.int (1 : Int32))])
                  refine own_st (fun t_ k_ => XS.istore X122.here hx rfl (hb hby at_231) rfl (l' := #[.val (.int ops), .val (.int c0), .val (.int c1), .val (.int flags), .val (.ref nb1), .val (.ref nb4), .val (.int (3 : Int32)), .val (.int (0 : Int32)), .val (.int (1 : Int32)), .val (.int (1 : Int32)), .val (.int (1 : Int32)), .val (.int (1 : Int32)), .val (.int (1 : Int32)), .val (.int (1 : Int32)), .unset]) rfl k_) ?_
                  show own_Go p e below _ T122 (mkF m 233 #[.val (.int ops), .val (.int c0), .val (.int c1), .val (.int flags), .val (.ref nb1), .val (.ref nb4), .val (.int (3 : Int32)), .val (.int (0 : Int32)), .val (.int (1 : Int32)), .val (.int (1 : Int32)), .val (.int (1 : Int32)), .val (.int (1 : Int32)), .val (.int (1 : Int32)), .val (.int (1 : Int32)), .unset] [])
                  refine own_st (fun t_ k_ => XS.aload X122.here hx rfl (hb hby at_233) rfl rfl k_) ?_
                  show own_Go p e below _ T122 (mkF m 235 #[.val (.int ops), .val (.int c0), .val (.int c1), .val (.int flags), .val (.ref nb1), .val (.ref nb4), .val (.int (3 : Int32)), .val (.int (0 : Int32)), .val (.int (1 : Int32)), .val (.int (1 : Int32)), .val (.int (1 : Int32)), .val (.int (1 : Int32)), .val (.int (1 : Int32)), .val (.int (1 : Int32)), .unset] [(.ref nb4)])
                  refine own_st (fun t_ k_ => XS.iconst X122.here hx rfl (hb hby at_235) k_) ?_
                  show own_Go p e below _ T122 (mkF m 236 #[.val (.int ops), .val (.int c0), .val (.int c1), .val (.int flags), .val (.ref nb1), .val (.ref nb4), .val (.int (3 : Int32)), .val (.int (0 : Int32)), .val (.int (1 : Int32)), .val (.int (1 : Int32)), .val (.int (1 : Int32)), .val (.int (1 : Int32)), .val (.int (1 : Int32)), .val (.int (1 : Int32)), .unset] [(.int (1 : Int32)), (.ref nb4)])
                  obtain ⟨cq125, kq125, q125a, q125b, q125c⟩ := isOf hZ hh122 Eq118
                  refine own_callV X122 hx (y := (⟨"com/example/kapu/kapu/service/Coverage$Part", "isCovered", "(Z)Z"⟩ : MethodName)) (z := (⟨"com/example/kapu/kapu/service/Coverage$Part", "isCovered", "(Z)Z"⟩ : MethodName)) hown (mvT hZ (hw _ (List.mem_of_getElem? (i := 41) rfl))) (mvT hZ (hw _ (List.mem_of_getElem? (i := 42) rfl))) (notFace_of_selects (args := #[]) (mvT hZ (hw _ (List.mem_of_getElem? (i := 44) rfl)))) (mvT hZ (hw _ (List.mem_of_getElem? (i := 44) rfl))) (mvT hZ (hw _ (List.mem_of_getElem? (i := 43) rfl))) (by decide) (backOf (W := 0) (rmV1 l Z a0 hw [] nb4 (1 : Int32) T118.heap n0 (Nat.le_trans Z0 K118.1) Fq118_2 rfl) hZ (hw _ (List.mem_of_getElem? (i := 45) rfl)) (hw _ (List.mem_of_getElem? (i := 3) rfl)) (by decide) (by decide)) q125a q125c (g := (mkF m 236 #[.val (.int ops), .val (.int c0), .val (.int c1), .val (.int flags), .val (.ref nb1), .val (.ref nb4), .val (.int (3 : Int32)), .val (.int (0 : Int32)), .val (.int (1 : Int32)), .val (.int (1 : Int32)), .val (.int (1 : Int32)), .val (.int (1 : Int32)), .val (.int (1 : Int32)), .val (.int (1 : Int32)), .unset] [(.int (1 : Int32)), (.ref nb4)])) rfl (by rw [hml]; rfl) (argsL := [(.int (1 : Int32))]) (rest := []) (lenOf pd_2 rfl) rfl (by show 2 * 0 + _ ≤ _; exact Nat.le_of_eq rfl) (hb hby at_236) rfl hh122 (by decide) (by decide) ?_
                  rintro v124 T124 L124 X124 ⟨rfl, Nq124, hh124⟩
                  have N124 := Fr.app N122 Nq124
                  show own_Go p e below _ T124 (mkF m 239 #[.val (.int ops), .val (.int c0), .val (.int c1), .val (.int flags), .val (.ref nb1), .val (.ref nb4), .val (.int (3 : Int32)), .val (.int (0 : Int32)), .val (.int (1 : Int32)), .val (.int (1 : Int32)), .val (.int (1 : Int32)), .val (.int (1 : Int32)), .val (.int (1 : Int32)), .val (.int (1 : Int32)), .unset] [(.int (1 : Int32))])
                  refine own_st (fun t_ k_ => XS.istore X124.here hx rfl (hb hby at_239) rfl (l' := #[.val (.int ops), .val (.int c0), .val (.int c1), .val (.int flags), .val (.ref nb1), .val (.ref nb4), .val (.int (3 : Int32)), .val (.int (0 : Int32)), .val (.int (1 : Int32)), .val (.int (1 : Int32)), .val (.int (1 : Int32)), .val (.int (1 : Int32)), .val (.int (1 : Int32)), .val (.int (1 : Int32)), .val (.int (1 : Int32))]) rfl k_) ?_
                  show own_Go p e below _ T124 (mkF m 241 #[.val (.int ops), .val (.int c0), .val (.int c1), .val (.int flags), .val (.ref nb1), .val (.ref nb4), .val (.int (3 : Int32)), .val (.int (0 : Int32)), .val (.int (1 : Int32)), .val (.int (1 : Int32)), .val (.int (1 : Int32)), .val (.int (1 : Int32)), .val (.int (1 : Int32)), .val (.int (1 : Int32)), .val (.int (1 : Int32))] [])
                  refine own_st (fun t_ k_ => XS.iload X124.here hx rfl (hb hby at_241) rfl k_) ?_
                  show own_Go p e below _ T124 (mkF m 243 #[.val (.int ops), .val (.int c0), .val (.int c1), .val (.int flags), .val (.ref nb1), .val (.ref nb4), .val (.int (3 : Int32)), .val (.int (0 : Int32)), .val (.int (1 : Int32)), .val (.int (1 : Int32)), .val (.int (1 : Int32)), .val (.int (1 : Int32)), .val (.int (1 : Int32)), .val (.int (1 : Int32)), .val (.int (1 : Int32))] [(.int (1 : Int32))])
                  refine own_st (fun t_ k_ => XS.iload X124.here hx rfl (hb hby at_243) rfl k_) ?_
                  show own_Go p e below _ T124 (mkF m 245 #[.val (.int ops), .val (.int c0), .val (.int c1), .val (.int flags), .val (.ref nb1), .val (.ref nb4), .val (.int (3 : Int32)), .val (.int (0 : Int32)), .val (.int (1 : Int32)), .val (.int (1 : Int32)), .val (.int (1 : Int32)), .val (.int (1 : Int32)), .val (.int (1 : Int32)), .val (.int (1 : Int32)), .val (.int (1 : Int32))] [(.int (1 : Int32)), (.int (1 : Int32))])
                  refine own_st (fun t_ k_ => XS.icmpNo X124.here hx rfl (hb hby at_245) rfl (by decide) k_) ?_
                  show own_Go p e below _ T124 (mkF m 248 #[.val (.int ops), .val (.int c0), .val (.int c1), .val (.int flags), .val (.ref nb1), .val (.ref nb4), .val (.int (3 : Int32)), .val (.int (0 : Int32)), .val (.int (1 : Int32)), .val (.int (1 : Int32)), .val (.int (1 : Int32)), .val (.int (1 : Int32)), .val (.int (1 : Int32)), .val (.int (1 : Int32)), .val (.int (1 : Int32))] [])
                  refine own_st (fun t_ k_ => XS.iload X124.here hx rfl (hb hby at_248) rfl k_) ?_
                  show own_Go p e below _ T124 (mkF m 250 #[.val (.int ops), .val (.int c0), .val (.int c1), .val (.int flags), .val (.ref nb1), .val (.ref nb4), .val (.int (3 : Int32)), .val (.int (0 : Int32)), .val (.int (1 : Int32)), .val (.int (1 : Int32)), .val (.int (1 : Int32)), .val (.int (1 : Int32)), .val (.int (1 : Int32)), .val (.int (1 : Int32)), .val (.int (1 : Int32))] [(.int (1 : Int32))])
                  refine own_st (fun t_ k_ => XS.iload X124.here hx rfl (hb hby at_250) rfl k_) ?_
                  show own_Go p e below _ T124 (mkF m 252 #[.val (.int ops), .val (.int c0), .val (.int c1), .val (.int flags), .val (.ref nb1), .val (.ref nb4), .val (.int (3 : Int32)), .val (.int (0 : Int32)), .val (.int (1 : Int32)), .val (.int (1 : Int32)), .val (.int (1 : Int32)), .val (.int (1 : Int32)), .val (.int (1 : Int32)), .val (.int (1 : Int32)), .val (.int (1 : Int32))] [(.int (1 : Int32)), (.int (1 : Int32))])
                  refine own_st (fun t_ k_ => XS.icmpNo X124.here hx rfl (hb hby at_252) rfl (by decide) k_) ?_
                  show own_Go p e below _ T124 (mkF m 255 #[.val (.int ops), .val (.int c0), .val (.int c1), .val (.int flags), .val (.ref nb1), .val (.ref nb4), .val (.int (3 : Int32)), .val (.int (0 : Int32)), .val (.int (1 : Int32)), .val (.int (1 : Int32)), .val (.int (1 : Int32)), .val (.int (1 : Int32)), .val (.int (1 : Int32)), .val (.int (1 : Int32)), .val (.int (1 : Int32))] [])
                  refine own_st (fun t_ k_ => XS.iload X124.here hx rfl (hb hby at_255) rfl k_) ?_
                  show own_Go p e below _ T124 (mkF m 257 #[.val (.int ops), .val (.int c0), .val (.int c1), .val (.int flags), .val (.ref nb1), .val (.ref nb4), .val (.int (3 : Int32)), .val (.int (0 : Int32)), .val (.int (1 : Int32)), .val (.int (1 : Int32)), .val (.int (1 : Int32)), .val (.int (1 : Int32)), .val (.int (1 : Int32)), .val (.int (1 : Int32)), .val (.int (1 : Int32))] [(.int (1 : Int32))])
                  refine own_st (fun t_ k_ => XS.iload X124.here hx rfl (hb hby at_257) rfl k_) ?_
                  show own_Go p e below _ T124 (mkF m 259 #[.val (.int ops), .val (.int c0), .val (.int c1), .val (.int flags), .val (.ref nb1), .val (.ref nb4), .val (.int (3 : Int32)), .val (.int (0 : Int32)), .val (.int (1 : Int32)), .val (.int (1 : Int32)), .val (.int (1 : Int32)), .val (.int (1 : Int32)), .val (.int (1 : Int32)), .val (.int (1 : Int32)), .val (.int (1 : Int32))] [(.int (1 : Int32)), (.int (1 : Int32))])
                  refine own_st (fun t_ k_ => XS.icmpNo X124.here hx rfl (hb hby at_259) rfl (by decide) k_) ?_
                  show own_Go p e below _ T124 (mkF m 262 #[.val (.int ops), .val (.int c0), .val (.int c1), .val (.int flags), .val (.ref nb1), .val (.ref nb4), .val (.int (3 : Int32)), .val (.int (0 : Int32)), .val (.int (1 : Int32)), .val (.int (1 : Int32)), .val (.int (1 : Int32)), .val (.int (1 : Int32)), .val (.int (1 : Int32)), .val (.int (1 : Int32)), .val (.int (1 : Int32))] [])
                  refine own_st (fun t_ k_ => XS.iconst X124.here hx rfl (hb hby at_262) k_) ?_
                  show own_Go p e below _ T124 (mkF m 263 #[.val (.int ops), .val (.int c0), .val (.int c1), .val (.int flags), .val (.ref nb1), .val (.ref nb4), .val (.int (3 : Int32)), .val (.int (0 : Int32)), .val (.int (1 : Int32)), .val (.int (1 : Int32)), .val (.int (1 : Int32)), .val (.int (1 : Int32)), .val (.int (1 : Int32)), .val (.int (1 : Int32)), .val (.int (1 : Int32))] [(.int (1 : Int32))])
                  refine own_st (fun t_ k_ => XS.goto X124.here hx rfl (pc0 := 263) (pc' := 267) rfl (hb hby at_263) (by decide) (by decide) k_) ?_
                  show own_Go p e below _ T124 (mkF m 267 #[.val (.int ops), .val (.int c0), .val (.int c1), .val (.int flags), .val (.ref nb1), .val (.ref nb4), .val (.int (3 : Int32)), .val (.int (0 : Int32)), .val (.int (1 : Int32)), .val (.int (1 : Int32)), .val (.int (1 : Int32)), .val (.int (1 : Int32)), .val (.int (1 : Int32)), .val (.int (1 : Int32)), .val (.int (1 : Int32))] [(.int (1 : Int32))])
                  refine own_retN X124 hx hlk (t := .boolean) Bd.returns (by simp) (hb hby at_267) ?_ (by decide) (by decide)
                  show Q0 n0 _ T124.heap _
                  rw [hh124]
                  exact ⟨rfl, N124⟩
            · show own_Go p e below _ T26 (mkF m 108 #[.val (.int ops), .val (.int c0), .val (.int c1), .val (.int flags), .val (.ref nb1), .val (.ref nb4), .val (.int (3 : Int32)), .val (.int (1 : Int32)), .val (.int b1), .val (.int b2), .unset, .unset, .unset, .unset, .unset] [(.int (1 : Int32)), (.ref nb4)])
              obtain ⟨cq127, kq127, q127a, q127b, q127c⟩ := isOf hZ rfl Eq26
              refine own_callV X26 hx (y := (⟨"com/example/kapu/kapu/service/Coverage$Part", "cover", "(Z)V"⟩ : MethodName)) (z := (⟨"com/example/kapu/kapu/service/Coverage$Part", "cover", "(Z)V"⟩ : MethodName)) hown (mvT hZ (hw _ (List.mem_of_getElem? (i := 50) rfl))) (mvT hZ (hw _ (List.mem_of_getElem? (i := 51) rfl))) (notFace_of_selects (args := #[]) (mvT hZ (hw _ (List.mem_of_getElem? (i := 53) rfl)))) (mvT hZ (hw _ (List.mem_of_getElem? (i := 53) rfl))) (mvT hZ (hw _ (List.mem_of_getElem? (i := 52) rfl))) (by decide) (backOf (W := 0) (rmC1 l Z a0 hw [] nb4 nb5 bz (0 : Int32) (0 : Int32) T26.heap n0 (Nat.le_trans Z0 K26.1) g_nb4 Eq26 Fq26_0 Fq26_1 Fq26_2 Fq26_3) hZ (hw _ (List.mem_of_getElem? (i := 54) rfl)) (hw _ (List.mem_of_getElem? (i := 3) rfl)) (by decide) (by decide)) q127a q127c (g := (mkF m 108 #[.val (.int ops), .val (.int c0), .val (.int c1), .val (.int flags), .val (.ref nb1), .val (.ref nb4), .val (.int (3 : Int32)), .val (.int (1 : Int32)), .val (.int b1), .val (.int b2), .unset, .unset, .unset, .unset, .unset] [(.int (1 : Int32)), (.ref nb4)])) rfl (by rw [hml]; rfl) (argsL := [(.int (1 : Int32))]) (rest := []) (lenOf pd_3 rfl) rfl (by show 2 * 0 + _ ≤ _; exact Nat.le_of_eq rfl) (hb hby at_108) rfl rfl (by decide) (by decide) ?_
              rintro v126 T126 L126 X126 ⟨rfl, Nq126, Kq126, Eq126, Fq126_0, Fq126_1, Fq126_2, Fq126_3⟩
              have N126 := Fr.app N26 Nq126
              have K126 : Keep h0 T126.heap [] := K26.trans Kq126 (allS (Or.inr sz_nb4) all0)
              show own_Go p e below _ T126 (mkF m 111 #[.val (.int ops), .val (.int c0), .val (.int c1), .val (.int flags), .val (.ref nb1), .val (.ref nb4), .val (.int (3 : Int32)), .val (.int (1 : Int32)), .val (.int b1), .val (.int b2), .unset, .unset, .unset, .unset, .unset] [])
              refine own_st (fun t_ k_ => XS.iload X126.here hx rfl (hb hby at_111) rfl k_) ?_
              show own_Go p e below _ T126 (mkF m 113 #[.val (.int ops), .val (.int c0), .val (.int c1), .val (.int flags), .val (.ref nb1), .val (.ref nb4), .val (.int (3 : Int32)), .val (.int (1 : Int32)), .val (.int b1), .val (.int b2), .unset, .unset, .unset, .unset, .unset] [(.int (3 : Int32))])
              refine own_st (fun t_ k_ => XS.iconst X126.here hx rfl (hb hby at_113) k_) ?_
              show own_Go p e below _ T126 (mkF m 114 #[.val (.int ops), .val (.int c0), .val (.int c1), .val (.int flags), .val (.ref nb1), .val (.ref nb4), .val (.int (3 : Int32)), .val (.int (1 : Int32)), .val (.int b1), .val (.int b2), .unset, .unset, .unset, .unset, .unset] [(.int (2 : Int32)), (.int (3 : Int32))])
              refine own_st (fun t_ k_ => XS.icmpNo X126.here hx rfl (hb hby at_114) rfl (by decide) k_) ?_
              show own_Go p e below _ T126 (mkF m 117 #[.val (.int ops), .val (.int c0), .val (.int c1), .val (.int flags), .val (.ref nb1), .val (.ref nb4), .val (.int (3 : Int32)), .val (.int (1 : Int32)), .val (.int b1), .val (.int b2), .unset, .unset, .unset, .unset, .unset] [])
              refine own_st (fun t_ k_ => XS.aload X126.here hx rfl (hb hby at_117) rfl rfl k_) ?_
              show own_Go p e below _ T126 (mkF m 119 #[.val (.int ops), .val (.int c0), .val (.int c1), .val (.int flags), .val (.ref nb1), .val (.ref nb4), .val (.int (3 : Int32)), .val (.int (1 : Int32)), .val (.int b1), .val (.int b2), .unset, .unset, .unset, .unset, .unset] [(.ref nb4)])
              refine own_st (fun t_ k_ => XS.iload X126.here hx rfl (hb hby at_119) rfl k_) ?_
              show own_Go p e below _ T126 (mkF m 121 #[.val (.int ops), .val (.int c0), .val (.int c1), .val (.int flags), .val (.ref nb1), .val (.ref nb4), .val (.int (3 : Int32)), .val (.int (1 : Int32)), .val (.int b1), .val (.int b2), .unset, .unset, .unset, .unset, .unset] [(.int b1), (.ref nb4)])
              rcases (h_b1 : b1 = (0 : Int32) ∨ b1 = (1 : Int32)) with rfl | rfl
              · show own_Go p e below _ T126 (mkF m 121 #[.val (.int ops), .val (.int c0), .val (.int c1), .val (.int flags), .val (.ref nb1), .val (.ref nb4), .val (.int (3 : Int32)), .val (.int (1 : Int32)), .val (.int (0 : Int32)), .val (.int b2), .unset, .unset, .unset, .unset, .unset] [(.int (0 : Int32)), (.ref nb4)])
                obtain ⟨cq129, kq129, q129a, q129b, q129c⟩ := isOf hZ rfl Eq126
                refine own_callV X126 hx (y := (⟨"com/example/kapu/kapu/service/Coverage$Part", "cover", "(Z)V"⟩ : MethodName)) (z := (⟨"com/example/kapu/kapu/service/Coverage$Part", "cover", "(Z)V"⟩ : MethodName)) hown (mvT hZ (hw _ (List.mem_of_getElem? (i := 50) rfl))) (mvT hZ (hw _ (List.mem_of_getElem? (i := 51) rfl))) (notFace_of_selects (args := #[]) (mvT hZ (hw _ (List.mem_of_getElem? (i := 53) rfl)))) (mvT hZ (hw _ (List.mem_of_getElem? (i := 53) rfl))) (mvT hZ (hw _ (List.mem_of_getElem? (i := 52) rfl))) (by decide) (backOf (W := 0) (rmC0 l Z a0 hw [] nb4 nb5 bz (1 : Int32) (0 : Int32) T126.heap n0 (Nat.le_trans Z0 K126.1) g_nb4 Eq126 Fq126_0 Fq126_1 Fq126_2 Fq126_3) hZ (hw _ (List.mem_of_getElem? (i := 54) rfl)) (hw _ (List.mem_of_getElem? (i := 3) rfl)) (by decide) (by decide)) q129a q129c (g := (mkF m 121 #[.val (.int ops), .val (.int c0), .val (.int c1), .val (.int flags), .val (.ref nb1), .val (.ref nb4), .val (.int (3 : Int32)), .val (.int (1 : Int32)), .val (.int (0 : Int32)), .val (.int b2), .unset, .unset, .unset, .unset, .unset] [(.int (0 : Int32)), (.ref nb4)])) rfl (by rw [hml]; rfl) (argsL := [(.int (0 : Int32))]) (rest := []) (lenOf pd_3 rfl) rfl (by show 2 * 0 + _ ≤ _; exact Nat.le_of_eq rfl) (hb hby at_121) rfl rfl (by decide) (by decide) ?_
                rintro v128 T128 L128 X128 ⟨rfl, Nq128, Kq128, Eq128, Fq128_0, Fq128_1, Fq128_2, Fq128_3⟩
                have N128 := Fr.app N126 Nq128
                have K128 : Keep h0 T128.heap [] := K126.trans Kq128 (allS (Or.inr sz_nb4) all0)
                show own_Go p e below _ T128 (mkF m 124 #[.val (.int ops), .val (.int c0), .val (.int c1), .val (.int flags), .val (.ref nb1), .val (.ref nb4), .val (.int (3 : Int32)), .val (.int (1 : Int32)), .val (.int (0 : Int32)), .val (.int b2), .unset, .unset, .unset, .unset, .unset] [])
                refine own_st (fun t_ k_ => XS.iload X128.here hx rfl (hb hby at_124) rfl k_) ?_
                show own_Go p e below _ T128 (mkF m 126 #[.val (.int ops), .val (.int c0), .val (.int c1), .val (.int flags), .val (.ref nb1), .val (.ref nb4), .val (.int (3 : Int32)), .val (.int (1 : Int32)), .val (.int (0 : Int32)), .val (.int b2), .unset, .unset, .unset, .unset, .unset] [(.int (3 : Int32))])
                refine own_st (fun t_ k_ => XS.iconst X128.here hx rfl (hb hby at_126) k_) ?_
                show own_Go p e below _ T128 (mkF m 127 #[.val (.int ops), .val (.int c0), .val (.int c1), .val (.int flags), .val (.ref nb1), .val (.ref nb4), .val (.int (3 : Int32)), .val (.int (1 : Int32)), .val (.int (0 : Int32)), .val (.int b2), .unset, .unset, .unset, .unset, .unset] [(.int (3 : Int32)), (.int (3 : Int32))])
                refine own_st (fun t_ k_ => XS.icmpNo X128.here hx rfl (hb hby at_127) rfl (by decide) k_) ?_
                show own_Go p e below _ T128 (mkF m 130 #[.val (.int ops), .val (.int c0), .val (.int c1), .val (.int flags), .val (.ref nb1), .val (.ref nb4), .val (.int (3 : Int32)), .val (.int (1 : Int32)), .val (.int (0 : Int32)), .val (.int b2), .unset, .unset, .unset, .unset, .unset] [])
                refine own_st (fun t_ k_ => XS.aload X128.here hx rfl (hb hby at_130) rfl rfl k_) ?_
                show own_Go p e below _ T128 (mkF m 132 #[.val (.int ops), .val (.int c0), .val (.int c1), .val (.int flags), .val (.ref nb1), .val (.ref nb4), .val (.int (3 : Int32)), .val (.int (1 : Int32)), .val (.int (0 : Int32)), .val (.int b2), .unset, .unset, .unset, .unset, .unset] [(.ref nb4)])
                refine own_st (fun t_ k_ => XS.iload X128.here hx rfl (hb hby at_132) rfl k_) ?_
                show own_Go p e below _ T128 (mkF m 134 #[.val (.int ops), .val (.int c0), .val (.int c1), .val (.int flags), .val (.ref nb1), .val (.ref nb4), .val (.int (3 : Int32)), .val (.int (1 : Int32)), .val (.int (0 : Int32)), .val (.int b2), .unset, .unset, .unset, .unset, .unset] [(.int b2), (.ref nb4)])
                rcases (h_b2 : b2 = (0 : Int32) ∨ b2 = (1 : Int32)) with rfl | rfl
                · show own_Go p e below _ T128 (mkF m 134 #[.val (.int ops), .val (.int c0), .val (.int c1), .val (.int flags), .val (.ref nb1), .val (.ref nb4), .val (.int (3 : Int32)), .val (.int (1 : Int32)), .val (.int (0 : Int32)), .val (.int (0 : Int32)), .unset, .unset, .unset, .unset, .unset] [(.int (0 : Int32)), (.ref nb4)])
                  obtain ⟨cq131, kq131, q131a, q131b, q131c⟩ := isOf hZ rfl Eq128
                  refine own_callV X128 hx (y := (⟨"com/example/kapu/kapu/service/Coverage$Part", "cover", "(Z)V"⟩ : MethodName)) (z := (⟨"com/example/kapu/kapu/service/Coverage$Part", "cover", "(Z)V"⟩ : MethodName)) hown (mvT hZ (hw _ (List.mem_of_getElem? (i := 50) rfl))) (mvT hZ (hw _ (List.mem_of_getElem? (i := 51) rfl))) (notFace_of_selects (args := #[]) (mvT hZ (hw _ (List.mem_of_getElem? (i := 53) rfl)))) (mvT hZ (hw _ (List.mem_of_getElem? (i := 53) rfl))) (mvT hZ (hw _ (List.mem_of_getElem? (i := 52) rfl))) (by decide) (backOf (W := 0) (rmC0 l Z a0 hw [] nb4 nb5 bz (1 : Int32) (1 : Int32) T128.heap n0 (Nat.le_trans Z0 K128.1) g_nb4 Eq128 Fq128_0 Fq128_1 Fq128_2 Fq128_3) hZ (hw _ (List.mem_of_getElem? (i := 54) rfl)) (hw _ (List.mem_of_getElem? (i := 3) rfl)) (by decide) (by decide)) q131a q131c (g := (mkF m 134 #[.val (.int ops), .val (.int c0), .val (.int c1), .val (.int flags), .val (.ref nb1), .val (.ref nb4), .val (.int (3 : Int32)), .val (.int (1 : Int32)), .val (.int (0 : Int32)), .val (.int (0 : Int32)), .unset, .unset, .unset, .unset, .unset] [(.int (0 : Int32)), (.ref nb4)])) rfl (by rw [hml]; rfl) (argsL := [(.int (0 : Int32))]) (rest := []) (lenOf pd_3 rfl) rfl (by show 2 * 0 + _ ≤ _; exact Nat.le_of_eq rfl) (hb hby at_134) rfl rfl (by decide) (by decide) ?_
                  rintro v130 T130 L130 X130 ⟨rfl, Nq130, Kq130, Eq130, Fq130_0, Fq130_1, Fq130_2, Fq130_3⟩
                  have N130 := Fr.app N128 Nq130
                  have K130 : Keep h0 T130.heap [] := K128.trans Kq130 (allS (Or.inr sz_nb4) all0)
                  show own_Go p e below _ T130 (mkF m 137 #[.val (.int ops), .val (.int c0), .val (.int c1), .val (.int flags), .val (.ref nb1), .val (.ref nb4), .val (.int (3 : Int32)), .val (.int (1 : Int32)), .val (.int (0 : Int32)), .val (.int (0 : Int32)), .unset, .unset, .unset, .unset, .unset] [])
                  refine own_st (fun t_ k_ => XS.iload X130.here hx rfl (hb hby at_137) rfl k_) ?_
                  show own_Go p e below _ T130 (mkF m 139 #[.val (.int ops), .val (.int c0), .val (.int c1), .val (.int flags), .val (.ref nb1), .val (.ref nb4), .val (.int (3 : Int32)), .val (.int (1 : Int32)), .val (.int (0 : Int32)), .val (.int (0 : Int32)), .unset, .unset, .unset, .unset, .unset] [(.int (3 : Int32))])
                  refine own_st (fun t_ k_ => XS.iconst X130.here hx rfl (hb hby at_139) k_) ?_
                  show own_Go p e below _ T130 (mkF m 140 #[.val (.int ops), .val (.int c0), .val (.int c1), .val (.int flags), .val (.ref nb1), .val (.ref nb4), .val (.int (3 : Int32)), .val (.int (1 : Int32)), .val (.int (0 : Int32)), .val (.int (0 : Int32)), .unset, .unset, .unset, .unset, .unset] [(.int (1 : Int32)), (.int (3 : Int32))])
                  refine own_st (fun t_ k_ => XS.icmpNo X130.here hx rfl (hb hby at_140) rfl (by decide) k_) ?_
                  show own_Go p e below _ T130 (mkF m 143 #[.val (.int ops), .val (.int c0), .val (.int c1), .val (.int flags), .val (.ref nb1), .val (.ref nb4), .val (.int (3 : Int32)), .val (.int (1 : Int32)), .val (.int (0 : Int32)), .val (.int (0 : Int32)), .unset, .unset, .unset, .unset, .unset] [])
                  refine own_st (fun t_ k_ => XS.iload X130.here hx rfl (hb hby at_143) rfl k_) ?_
                  show own_Go p e below _ T130 (mkF m 145 #[.val (.int ops), .val (.int c0), .val (.int c1), .val (.int flags), .val (.ref nb1), .val (.ref nb4), .val (.int (3 : Int32)), .val (.int (1 : Int32)), .val (.int (0 : Int32)), .val (.int (0 : Int32)), .unset, .unset, .unset, .unset, .unset] [(.int (1 : Int32))])
                  refine own_st (fun t_ k_ => XS.ifYes X130.here hx rfl (pc0 := 145) (pc' := 170) rfl (hb hby at_145) rfl (by decide) (by decide) (by decide) k_) ?_
                  show own_Go p e below _ T130 (mkF m 170 #[.val (.int ops), .val (.int c0), .val (.int c1), .val (.int flags), .val (.ref nb1), .val (.ref nb4), .val (.int (3 : Int32)), .val (.int (1 : Int32)), .val (.int (0 : Int32)), .val (.int (0 : Int32)), .unset, .unset, .unset, .unset, .unset] [])
                  refine own_st (fun t_ k_ => XS.iconst X130.here hx rfl (hb hby at_170) k_) ?_
                  show own_Go p e below _ T130 (mkF m 171 #[.val (.int ops), .val (.int c0), .val (.int c1), .val (.int flags), .val (.ref nb1), .val (.ref nb4), .val (.int (3 : Int32)), .val (.int (1 : Int32)), .val (.int (0 : Int32)), .val (.int (0 : Int32)), .unset, .unset, .unset, .unset, .unset] [(.int (1 : Int32))])
                  refine own_st (fun t_ k_ => XS.goto X130.here hx rfl (pc0 := 171) (pc' := 175) rfl (hb hby at_171) (by decide) (by decide) k_) ?_
                  show own_Go p e below _ T130 (mkF m 175 #[.val (.int ops), .val (.int c0), .val (.int c1), .val (.int flags), .val (.ref nb1), .val (.ref nb4), .val (.int (3 : Int32)), .val (.int (1 : Int32)), .val (.int (0 : Int32)), .val (.int (0 : Int32)), .unset, .unset, .unset, .unset, .unset] [(.int (1 : Int32))])
                  refine own_st (fun t_ k_ => XS.istore X130.here hx rfl (hb hby at_175) rfl (l' := #[.val (.int ops), .val (.int c0), .val (.int c1), .val (.int flags), .val (.ref nb1), .val (.ref nb4), .val (.int (3 : Int32)), .val (.int (1 : Int32)), .val (.int (0 : Int32)), .val (.int (0 : Int32)), .val (.int (1 : Int32)), .unset, .unset, .unset, .unset]) rfl k_) ?_
                  show own_Go p e below _ T130 (mkF m 177 #[.val (.int ops), .val (.int c0), .val (.int c1), .val (.int flags), .val (.ref nb1), .val (.ref nb4), .val (.int (3 : Int32)), .val (.int (1 : Int32)), .val (.int (0 : Int32)), .val (.int (0 : Int32)), .val (.int (1 : Int32)), .unset, .unset, .unset, .unset] [])
                  refine own_st (fun t_ k_ => XS.iload X130.here hx rfl (hb hby at_177) rfl k_) ?_
                  show own_Go p e below _ T130 (mkF m 179 #[.val (.int ops), .val (.int c0), .val (.int c1), .val (.int flags), .val (.ref nb1), .val (.ref nb4), .val (.int (3 : Int32)), .val (.int (1 : Int32)), .val (.int (0 : Int32)), .val (.int (0 : Int32)), .val (.int (1 : Int32)), .unset, .unset, .unset, .unset] [(.int (3 : Int32))])
                  refine own_st (fun t_ k_ => XS.iconst X130.here hx rfl (hb hby at_179) k_) ?_
                  show own_Go p e below _ T130 (mkF m 180 #[.val (.int ops), .val (.int c0), .val (.int c1), .val (.int flags), .val (.ref nb1), .val (.ref nb4), .val (.int (3 : Int32)), .val (.int (1 : Int32)), .val (.int (0 : Int32)), .val (.int (0 : Int32)), .val (.int (1 : Int32)), .unset, .unset, .unset, .unset] [(.int (1 : Int32)), (.int (3 : Int32))])
                  refine own_st (fun t_ k_ => XS.icmpNo X130.here hx rfl (hb hby at_180) rfl (by decide) k_) ?_
                  show own_Go p e below _ T130 (mkF m 183 #[.val (.int ops), .val (.int c0), .val (.int c1), .val (.int flags), .val (.ref nb1), .val (.ref nb4), .val (.int (3 : Int32)), .val (.int (1 : Int32)), .val (.int (0 : Int32)), .val (.int (0 : Int32)), .val (.int (1 : Int32)), .unset, .unset, .unset, .unset] [])
                  refine own_st (fun t_ k_ => XS.iload X130.here hx rfl (hb hby at_183) rfl k_) ?_
                  show own_Go p e below _ T130 (mkF m 185 #[.val (.int ops), .val (.int c0), .val (.int c1), .val (.int flags), .val (.ref nb1), .val (.ref nb4), .val (.int (3 : Int32)), .val (.int (1 : Int32)), .val (.int (0 : Int32)), .val (.int (0 : Int32)), .val (.int (1 : Int32)), .unset, .unset, .unset, .unset] [(.int (1 : Int32))])
                  refine own_st (fun t_ k_ => XS.ifNo X130.here hx rfl (hb hby at_185) rfl (by decide) k_) ?_
                  show own_Go p e below _ T130 (mkF m 188 #[.val (.int ops), .val (.int c0), .val (.int c1), .val (.int flags), .val (.ref nb1), .val (.ref nb4), .val (.int (3 : Int32)), .val (.int (1 : Int32)), .val (.int (0 : Int32)), .val (.int (0 : Int32)), .val (.int (1 : Int32)), .unset, .unset, .unset, .unset] [])
                  refine own_st (fun t_ k_ => XS.iload X130.here hx rfl (hb hby at_188) rfl k_) ?_
                  show own_Go p e below _ T130 (mkF m 190 #[.val (.int ops), .val (.int c0), .val (.int c1), .val (.int flags), .val (.ref nb1), .val (.ref nb4), .val (.int (3 : Int32)), .val (.int (1 : Int32)), .val (.int (0 : Int32)), .val (.int (0 : Int32)), .val (.int (1 : Int32)), .unset, .unset, .unset, .unset] [(.int (3 : Int32))])
                  refine own_st (fun t_ k_ => XS.iconst X130.here hx rfl (hb hby at_190) k_) ?_
                  show own_Go p e below _ T130 (mkF m 191 #[.val (.int ops), .val (.int c0), .val (.int c1), .val (.int flags), .val (.ref nb1), .val (.ref nb4), .val (.int (3 : Int32)), .val (.int (1 : Int32)), .val (.int (0 : Int32)), .val (.int (0 : Int32)), .val (.int (1 : Int32)), .unset, .unset, .unset, .unset] [(.int (2 : Int32)), (.int (3 : Int32))])
                  refine own_st (fun t_ k_ => XS.icmpNo X130.here hx rfl (hb hby at_191) rfl (by decide) k_) ?_
                  show own_Go p e below _ T130 (mkF m 194 #[.val (.int ops), .val (.int c0), .val (.int c1), .val (.int flags), .val (.ref nb1), .val (.ref nb4), .val (.int (3 : Int32)), .val (.int (1 : Int32)), .val (.int (0 : Int32)), .val (.int (0 : Int32)), .val (.int (1 : Int32)), .unset, .unset, .unset, .unset] [])
                  refine own_st (fun t_ k_ => XS.iload X130.here hx rfl (hb hby at_194) rfl k_) ?_
                  show own_Go p e below _ T130 (mkF m 196 #[.val (.int ops), .val (.int c0), .val (.int c1), .val (.int flags), .val (.ref nb1), .val (.ref nb4), .val (.int (3 : Int32)), .val (.int (1 : Int32)), .val (.int (0 : Int32)), .val (.int (0 : Int32)), .val (.int (1 : Int32)), .unset, .unset, .unset, .unset] [(.int (0 : Int32))])
                  refine own_st (fun t_ k_ => XS.ifYes X130.here hx rfl (pc0 := 196) (pc' := 210) rfl (hb hby at_196) rfl (by decide) (by decide) (by decide) k_) ?_
                  show own_Go p e below _ T130 (mkF m 210 #[.val (.int ops), .val (.int c0), .val (.int c1), .val (.int flags), .val (.ref nb1), .val (.ref nb4), .val (.int (3 : Int32)), .val (.int (1 : Int32)), .val (.int (0 : Int32)), .val (.int (0 : Int32)), .val (.int (1 : Int32)), .unset, .unset, .unset, .unset] [])
                  refine own_st (fun t_ k_ => XS.iconst X130.here hx rfl (hb hby at_210) k_) ?_
                  show own_Go p e below _ T130 (mkF m 211 #[.val (.int ops), .val (.int c0), .val (.int c1), .val (.int flags), .val (.ref nb1), .val (.ref nb4), .val (.int (3 : Int32)), .val (.int (1 : Int32)), .val (.int (0 : Int32)), .val (.int (0 : Int32)), .val (.int (1 : Int32)), .unset, .unset, .unset, .unset] [(.int (1 : Int32))])
                  refine own_st (fun t_ k_ => XS.goto X130.here hx rfl (pc0 := 211) (pc' := 215) rfl (hb hby at_211) (by decide) (by decide) k_) ?_
                  show own_Go p e below _ T130 (mkF m 215 #[.val (.int ops), .val (.int c0), .val (.int c1), .val (.int flags), .val (.ref nb1), .val (.ref nb4), .val (.int (3 : Int32)), .val (.int (1 : Int32)), .val (.int (0 : Int32)), .val (.int (0 : Int32)), .val (.int (1 : Int32)), .unset, .unset, .unset, .unset] [(.int (1 : Int32))])
                  refine own_st (fun t_ k_ => XS.istore X130.here hx rfl (hb hby at_215) rfl (l' := #[.val (.int ops), .val (.int c0), .val (.int c1), .val (.int flags), .val (.ref nb1), .val (.ref nb4), .val (.int (3 : Int32)), .val (.int (1 : Int32)), .val (.int (0 : Int32)), .val (.int (0 : Int32)), .val (.int (1 : Int32)), .val (.int (1 : Int32)), .unset, .unset, .unset]) rfl k_) ?_
                  show own_Go p e below _ T130 (mkF m 217 #[.val (.int ops), .val (.int c0), .val (.int c1), .val (.int flags), .val (.ref nb1), .val (.ref nb4), .val (.int (3 : Int32)), .val (.int (1 : Int32)), .val (.int (0 : Int32)), .val (.int (0 : Int32)), .val (.int (1 : Int32)), .val (.int (1 : Int32)), .unset, .unset, .unset] [])
                  refine own_st (fun t_ k_ => XS.aload X130.here hx rfl (hb hby at_217) rfl rfl k_) ?_
                  show own_Go p e below _ T130 (mkF m 219 #[.val (.int ops), .val (.int c0), .val (.int c1), .val (.int flags), .val (.ref nb1), .val (.ref nb4), .val (.int (3 : Int32)), .val (.int (1 : Int32)), .val (.int (0 : Int32)), .val (.int (0 : Int32)), .val (.int (1 : Int32)), .val (.int (1 : Int32)), .unset, .unset, .unset] [(.ref nb4)])
                  refine own_st (fun t_ k_ => XS.iconst X130.here hx rfl (hb hby at_219) k_) ?_
                  show own_Go p e below _ T130 (mkF m 220 #[.val (.int ops), .val (.int c0), .val (.int c1), .val (.int flags), .val (.ref nb1), .val (.ref nb4), .val (.int (3 : Int32)), .val (.int (1 : Int32)), .val (.int (0 : Int32)), .val (.int (0 : Int32)), .val (.int (1 : Int32)), .val (.int (1 : Int32)), .unset, .unset, .unset] [(.int (1 : Int32)), (.ref nb4)])
                  obtain ⟨cq133, kq133, q133a, q133b, q133c⟩ := isOf hZ rfl Eq130
                  refine own_callV X130 hx (y := (⟨"com/example/kapu/kapu/service/Coverage$Part", "isCovered", "(Z)Z"⟩ : MethodName)) (z := (⟨"com/example/kapu/kapu/service/Coverage$Part", "isCovered", "(Z)Z"⟩ : MethodName)) hown (mvT hZ (hw _ (List.mem_of_getElem? (i := 41) rfl))) (mvT hZ (hw _ (List.mem_of_getElem? (i := 42) rfl))) (notFace_of_selects (args := #[]) (mvT hZ (hw _ (List.mem_of_getElem? (i := 44) rfl)))) (mvT hZ (hw _ (List.mem_of_getElem? (i := 44) rfl))) (mvT hZ (hw _ (List.mem_of_getElem? (i := 43) rfl))) (by decide) (backOf (W := 0) (rmV1 l Z a0 hw [] nb4 (1 : Int32) T130.heap n0 (Nat.le_trans Z0 K130.1) Fq130_2 rfl) hZ (hw _ (List.mem_of_getElem? (i := 45) rfl)) (hw _ (List.mem_of_getElem? (i := 3) rfl)) (by decide) (by decide)) q133a q133c (g := (mkF m 220 #[.val (.int ops), .val (.int c0), .val (.int c1), .val (.int flags), .val (.ref nb1), .val (.ref nb4), .val (.int (3 : Int32)), .val (.int (1 : Int32)), .val (.int (0 : Int32)), .val (.int (0 : Int32)), .val (.int (1 : Int32)), .val (.int (1 : Int32)), .unset, .unset, .unset] [(.int (1 : Int32)), (.ref nb4)])) rfl (by rw [hml]; rfl) (argsL := [(.int (1 : Int32))]) (rest := []) (lenOf pd_2 rfl) rfl (by show 2 * 0 + _ ≤ _; exact Nat.le_of_eq rfl) (hb hby at_220) rfl rfl (by decide) (by decide) ?_
                  rintro v132 T132 L132 X132 ⟨rfl, Nq132, hh132⟩
                  have N132 := Fr.app N130 Nq132
                  show own_Go p e below _ T132 (mkF m 223 #[.val (.int ops), .val (.int c0), .val (.int c1), .val (.int flags), .val (.ref nb1), .val (.ref nb4), .val (.int (3 : Int32)), .val (.int (1 : Int32)), .val (.int (0 : Int32)), .val (.int (0 : Int32)), .val (.int (1 : Int32)), .val (.int (1 : Int32)), .unset, .unset, .unset] [(.int (1 : Int32))])
                  refine own_st (fun t_ k_ => XS.istore X132.here hx rfl (hb hby at_223) rfl (l' := #[.val (.int ops), .val (.int c0), .val (.int c1), .val (.int flags), .val (.ref nb1), .val (.ref nb4), .val (.int (3 : Int32)), .val (.int (1 : Int32)), .val (.int (0 : Int32)), .val (.int (0 : Int32)), .val (.int (1 : Int32)), .val (.int (1 : Int32)), .val (.int (1 : Int32)), .unset, .unset]) rfl k_) ?_
                  show own_Go p e below _ T132 (mkF m 225 #[.val (.int ops), .val (.int c0), .val (.int c1), .val (.int flags), .val (.ref nb1), .val (.ref nb4), .val (.int (3 : Int32)), .val (.int (1 : Int32)), .val (.int (0 : Int32)), .val (.int (0 : Int32)), .val (.int (1 : Int32)), .val (.int (1 : Int32)), .val (.int (1 : Int32)), .unset, .unset] [])
                  refine own_st (fun t_ k_ => XS.aload X132.here hx rfl (hb hby at_225) rfl rfl k_) ?_
                  show own_Go p e below _ T132 (mkF m 227 #[.val (.int ops), .val (.int c0), .val (.int c1), .val (.int flags), .val (.ref nb1), .val (.ref nb4), .val (.int (3 : Int32)), .val (.int (1 : Int32)), .val (.int (0 : Int32)), .val (.int (0 : Int32)), .val (.int (1 : Int32)), .val (.int (1 : Int32)), .val (.int (1 : Int32)), .unset, .unset] [(.ref nb4)])
                  refine own_st (fun t_ k_ => XS.iconst X132.here hx rfl (hb hby at_227) k_) ?_
                  show own_Go p e below _ T132 (mkF m 228 #[.val (.int ops), .val (.int c0), .val (.int c1), .val (.int flags), .val (.ref nb1), .val (.ref nb4), .val (.int (3 : Int32)), .val (.int (1 : Int32)), .val (.int (0 : Int32)), .val (.int (0 : Int32)), .val (.int (1 : Int32)), .val (.int (1 : Int32)), .val (.int (1 : Int32)), .unset, .unset] [(.int (0 : Int32)), (.ref nb4)])
                  obtain ⟨cq135, kq135, q135a, q135b, q135c⟩ := isOf hZ hh132 Eq130
                  refine own_callV X132 hx (y := (⟨"com/example/kapu/kapu/service/Coverage$Part", "isCovered", "(Z)Z"⟩ : MethodName)) (z := (⟨"com/example/kapu/kapu/service/Coverage$Part", "isCovered", "(Z)Z"⟩ : MethodName)) hown (mvT hZ (hw _ (List.mem_of_getElem? (i := 41) rfl))) (mvT hZ (hw _ (List.mem_of_getElem? (i := 42) rfl))) (notFace_of_selects (args := #[]) (mvT hZ (hw _ (List.mem_of_getElem? (i := 44) rfl)))) (mvT hZ (hw _ (List.mem_of_getElem? (i := 44) rfl))) (mvT hZ (hw _ (List.mem_of_getElem? (i := 43) rfl))) (by decide) (backOf (W := 0) (rmV0 l Z a0 hw [] nb4 (1 : Int32) T130.heap n0 (Nat.le_trans Z0 K130.1) Fq130_3 rfl) hZ (hw _ (List.mem_of_getElem? (i := 45) rfl)) (hw _ (List.mem_of_getElem? (i := 3) rfl)) (by decide) (by decide)) q135a q135c (g := (mkF m 228 #[.val (.int ops), .val (.int c0), .val (.int c1), .val (.int flags), .val (.ref nb1), .val (.ref nb4), .val (.int (3 : Int32)), .val (.int (1 : Int32)), .val (.int (0 : Int32)), .val (.int (0 : Int32)), .val (.int (1 : Int32)), .val (.int (1 : Int32)), .val (.int (1 : Int32)), .unset, .unset] [(.int (0 : Int32)), (.ref nb4)])) rfl (by rw [hml]; rfl) (argsL := [(.int (0 : Int32))]) (rest := []) (lenOf pd_2 rfl) rfl (by show 2 * 0 + _ ≤ _; exact Nat.le_of_eq rfl) (hb hby at_228) rfl hh132 (by decide) (by decide) ?_
                  rintro v134 T134 L134 X134 ⟨rfl, Nq134, hh134⟩
                  have N134 := Fr.app N132 Nq134
                  show own_Go p e below _ T134 (mkF m 231 #[.val (.int ops), .val (.int c0), .val (.int c1), .val (.int flags), .val (.ref nb1), .val (.ref nb4), .val (.int (3 : Int32)), .val (.int (1 : Int32)), .val (.int (0 : Int32)), .val (.int (0 : Int32)), .val (.int (1 : Int32)), .val (.int (1 : Int32)), .val (.int (1 : Int32)), .unset, .unset] [(.int (1 : Int32))])
                  refine own_st (fun t_ k_ => XS.istore X134.here hx rfl (hb hby at_231) rfl (l' := #[.val (.int ops), .val (.int c0), .val (.int c1), .val (.int flags), .val (.ref nb1), .val (.ref nb4), .val (.int (3 : Int32)), .val (.int (1 : Int32)), .val (.int (0 : Int32)), .val (.int (0 : Int32)), .val (.int (1 : Int32)), .val (.int (1 : Int32)), .val (.int (1 : Int32)), .val (.int (1 : Int32)), .unset]) rfl k_) ?_
                  show own_Go p e below _ T134 (mkF m 233 #[.val (.int ops), .val (.int c0), .val (.int c1), .val (.int flags), .val (.ref nb1), .val (.ref nb4), .val (.int (3 : Int32)), .val (.int (1 : Int32)), .val (.int (0 : Int32)), .val (.int (0 : Int32)), .val (.int (1 : Int32)), .val (.int (1 : Int32)), .val (.int (1 : Int32)), .val (.int (1 : Int32)), .unset] [])
                  refine own_st (fun t_ k_ => XS.aload X134.here hx rfl (hb hby at_233) rfl rfl k_) ?_
                  show own_Go p e below _ T134 (mkF m 235 #[.val (.int ops), .val (.int c0), .val (.int c1), .val (.int flags), .val (.ref nb1), .val (.ref nb4), .val (.int (3 : Int32)), .val (.int (1 : Int32)), .val (.int (0 : Int32)), .val (.int (0 : Int32)), .val (.int (1 : Int32)), .val (.int (1 : Int32)), .val (.int (1 : Int32)), .val (.int (1 : Int32)), .unset] [(.ref nb4)])
                  refine own_st (fun t_ k_ => XS.iconst X134.here hx rfl (hb hby at_235) k_) ?_
                  show own_Go p e below _ T134 (mkF m 236 #[.val (.int ops), .val (.int c0), .val (.int c1), .val (.int flags), .val (.ref nb1), .val (.ref nb4), .val (.int (3 : Int32)), .val (.int (1 : Int32)), .val (.int (0 : Int32)), .val (.int (0 : Int32)), .val (.int (1 : Int32)), .val (.int (1 : Int32)), .val (.int (1 : Int32)), .val (.int (1 : Int32)), .unset] [(.int (1 : Int32)), (.ref nb4)])
                  obtain ⟨cq137, kq137, q137a, q137b, q137c⟩ := isOf hZ hh134 Eq130
                  refine own_callV X134 hx (y := (⟨"com/example/kapu/kapu/service/Coverage$Part", "isCovered", "(Z)Z"⟩ : MethodName)) (z := (⟨"com/example/kapu/kapu/service/Coverage$Part", "isCovered", "(Z)Z"⟩ : MethodName)) hown (mvT hZ (hw _ (List.mem_of_getElem? (i := 41) rfl))) (mvT hZ (hw _ (List.mem_of_getElem? (i := 42) rfl))) (notFace_of_selects (args := #[]) (mvT hZ (hw _ (List.mem_of_getElem? (i := 44) rfl)))) (mvT hZ (hw _ (List.mem_of_getElem? (i := 44) rfl))) (mvT hZ (hw _ (List.mem_of_getElem? (i := 43) rfl))) (by decide) (backOf (W := 0) (rmV1 l Z a0 hw [] nb4 (1 : Int32) T130.heap n0 (Nat.le_trans Z0 K130.1) Fq130_2 rfl) hZ (hw _ (List.mem_of_getElem? (i := 45) rfl)) (hw _ (List.mem_of_getElem? (i := 3) rfl)) (by decide) (by decide)) q137a q137c (g := (mkF m 236 #[.val (.int ops), .val (.int c0), .val (.int c1), .val (.int flags), .val (.ref nb1), .val (.ref nb4), .val (.int (3 : Int32)), .val (.int (1 : Int32)), .val (.int (0 : Int32)), .val (.int (0 : Int32)), .val (.int (1 : Int32)), .val (.int (1 : Int32)), .val (.int (1 : Int32)), .val (.int (1 : Int32)), .unset] [(.int (1 : Int32)), (.ref nb4)])) rfl (by rw [hml]; rfl) (argsL := [(.int (1 : Int32))]) (rest := []) (lenOf pd_2 rfl) rfl (by show 2 * 0 + _ ≤ _; exact Nat.le_of_eq rfl) (hb hby at_236) rfl hh134 (by decide) (by decide) ?_
                  rintro v136 T136 L136 X136 ⟨rfl, Nq136, hh136⟩
                  have N136 := Fr.app N134 Nq136
                  show own_Go p e below _ T136 (mkF m 239 #[.val (.int ops), .val (.int c0), .val (.int c1), .val (.int flags), .val (.ref nb1), .val (.ref nb4), .val (.int (3 : Int32)), .val (.int (1 : Int32)), .val (.int (0 : Int32)), .val (.int (0 : Int32)), .val (.int (1 : Int32)), .val (.int (1 : Int32)), .val (.int (1 : Int32)), .val (.int (1 : Int32)), .unset] [(.int (1 : Int32))])
                  refine own_st (fun t_ k_ => XS.istore X136.here hx rfl (hb hby at_239) rfl (l' := #[.val (.int ops), .val (.int c0), .val (.int c1), .val (.int flags), .val (.ref nb1), .val (.ref nb4), .val (.int (3 : Int32)), .val (.int (1 : Int32)), .val (.int (0 : Int32)), .val (.int (0 : Int32)), .val (.int (1 : Int32)), .val (.int (1 : Int32)), .val (.int (1 : Int32)), .val (.int (1 : Int32)), .val (.int (1 : Int32))]) rfl k_) ?_
                  show own_Go p e below _ T136 (mkF m 241 #[.val (.int ops), .val (.int c0), .val (.int c1), .val (.int flags), .val (.ref nb1), .val (.ref nb4), .val (.int (3 : Int32)), .val (.int (1 : Int32)), .val (.int (0 : Int32)), .val (.int (0 : Int32)), .val (.int (1 : Int32)), .val (.int (1 : Int32)), .val (.int (1 : Int32)), .val (.int (1 : Int32)), .val (.int (1 : Int32))] [])
                  refine own_st (fun t_ k_ => XS.iload X136.here hx rfl (hb hby at_241) rfl k_) ?_
                  show own_Go p e below _ T136 (mkF m 243 #[.val (.int ops), .val (.int c0), .val (.int c1), .val (.int flags), .val (.ref nb1), .val (.ref nb4), .val (.int (3 : Int32)), .val (.int (1 : Int32)), .val (.int (0 : Int32)), .val (.int (0 : Int32)), .val (.int (1 : Int32)), .val (.int (1 : Int32)), .val (.int (1 : Int32)), .val (.int (1 : Int32)), .val (.int (1 : Int32))] [(.int (1 : Int32))])
                  refine own_st (fun t_ k_ => XS.iload X136.here hx rfl (hb hby at_243) rfl k_) ?_
                  show own_Go p e below _ T136 (mkF m 245 #[.val (.int ops), .val (.int c0), .val (.int c1), .val (.int flags), .val (.ref nb1), .val (.ref nb4), .val (.int (3 : Int32)), .val (.int (1 : Int32)), .val (.int (0 : Int32)), .val (.int (0 : Int32)), .val (.int (1 : Int32)), .val (.int (1 : Int32)), .val (.int (1 : Int32)), .val (.int (1 : Int32)), .val (.int (1 : Int32))] [(.int (1 : Int32)), (.int (1 : Int32))])
                  refine own_st (fun t_ k_ => XS.icmpNo X136.here hx rfl (hb hby at_245) rfl (by decide) k_) ?_
                  show own_Go p e below _ T136 (mkF m 248 #[.val (.int ops), .val (.int c0), .val (.int c1), .val (.int flags), .val (.ref nb1), .val (.ref nb4), .val (.int (3 : Int32)), .val (.int (1 : Int32)), .val (.int (0 : Int32)), .val (.int (0 : Int32)), .val (.int (1 : Int32)), .val (.int (1 : Int32)), .val (.int (1 : Int32)), .val (.int (1 : Int32)), .val (.int (1 : Int32))] [])
                  refine own_st (fun t_ k_ => XS.iload X136.here hx rfl (hb hby at_248) rfl k_) ?_
                  show own_Go p e below _ T136 (mkF m 250 #[.val (.int ops), .val (.int c0), .val (.int c1), .val (.int flags), .val (.ref nb1), .val (.ref nb4), .val (.int (3 : Int32)), .val (.int (1 : Int32)), .val (.int (0 : Int32)), .val (.int (0 : Int32)), .val (.int (1 : Int32)), .val (.int (1 : Int32)), .val (.int (1 : Int32)), .val (.int (1 : Int32)), .val (.int (1 : Int32))] [(.int (1 : Int32))])
                  refine own_st (fun t_ k_ => XS.iload X136.here hx rfl (hb hby at_250) rfl k_) ?_
                  show own_Go p e below _ T136 (mkF m 252 #[.val (.int ops), .val (.int c0), .val (.int c1), .val (.int flags), .val (.ref nb1), .val (.ref nb4), .val (.int (3 : Int32)), .val (.int (1 : Int32)), .val (.int (0 : Int32)), .val (.int (0 : Int32)), .val (.int (1 : Int32)), .val (.int (1 : Int32)), .val (.int (1 : Int32)), .val (.int (1 : Int32)), .val (.int (1 : Int32))] [(.int (1 : Int32)), (.int (1 : Int32))])
                  refine own_st (fun t_ k_ => XS.icmpNo X136.here hx rfl (hb hby at_252) rfl (by decide) k_) ?_
                  show own_Go p e below _ T136 (mkF m 255 #[.val (.int ops), .val (.int c0), .val (.int c1), .val (.int flags), .val (.ref nb1), .val (.ref nb4), .val (.int (3 : Int32)), .val (.int (1 : Int32)), .val (.int (0 : Int32)), .val (.int (0 : Int32)), .val (.int (1 : Int32)), .val (.int (1 : Int32)), .val (.int (1 : Int32)), .val (.int (1 : Int32)), .val (.int (1 : Int32))] [])
                  refine own_st (fun t_ k_ => XS.iload X136.here hx rfl (hb hby at_255) rfl k_) ?_
                  show own_Go p e below _ T136 (mkF m 257 #[.val (.int ops), .val (.int c0), .val (.int c1), .val (.int flags), .val (.ref nb1), .val (.ref nb4), .val (.int (3 : Int32)), .val (.int (1 : Int32)), .val (.int (0 : Int32)), .val (.int (0 : Int32)), .val (.int (1 : Int32)), .val (.int (1 : Int32)), .val (.int (1 : Int32)), .val (.int (1 : Int32)), .val (.int (1 : Int32))] [(.int (1 : Int32))])
                  refine own_st (fun t_ k_ => XS.iload X136.here hx rfl (hb hby at_257) rfl k_) ?_
                  show own_Go p e below _ T136 (mkF m 259 #[.val (.int ops), .val (.int c0), .val (.int c1), .val (.int flags), .val (.ref nb1), .val (.ref nb4), .val (.int (3 : Int32)), .val (.int (1 : Int32)), .val (.int (0 : Int32)), .val (.int (0 : Int32)), .val (.int (1 : Int32)), .val (.int (1 : Int32)), .val (.int (1 : Int32)), .val (.int (1 : Int32)), .val (.int (1 : Int32))] [(.int (1 : Int32)), (.int (1 : Int32))])
                  refine own_st (fun t_ k_ => XS.icmpNo X136.here hx rfl (hb hby at_259) rfl (by decide) k_) ?_
                  show own_Go p e below _ T136 (mkF m 262 #[.val (.int ops), .val (.int c0), .val (.int c1), .val (.int flags), .val (.ref nb1), .val (.ref nb4), .val (.int (3 : Int32)), .val (.int (1 : Int32)), .val (.int (0 : Int32)), .val (.int (0 : Int32)), .val (.int (1 : Int32)), .val (.int (1 : Int32)), .val (.int (1 : Int32)), .val (.int (1 : Int32)), .val (.int (1 : Int32))] [])
                  refine own_st (fun t_ k_ => XS.iconst X136.here hx rfl (hb hby at_262) k_) ?_
                  show own_Go p e below _ T136 (mkF m 263 #[.val (.int ops), .val (.int c0), .val (.int c1), .val (.int flags), .val (.ref nb1), .val (.ref nb4), .val (.int (3 : Int32)), .val (.int (1 : Int32)), .val (.int (0 : Int32)), .val (.int (0 : Int32)), .val (.int (1 : Int32)), .val (.int (1 : Int32)), .val (.int (1 : Int32)), .val (.int (1 : Int32)), .val (.int (1 : Int32))] [(.int (1 : Int32))])
                  refine own_st (fun t_ k_ => XS.goto X136.here hx rfl (pc0 := 263) (pc' := 267) rfl (hb hby at_263) (by decide) (by decide) k_) ?_
                  show own_Go p e below _ T136 (mkF m 267 #[.val (.int ops), .val (.int c0), .val (.int c1), .val (.int flags), .val (.ref nb1), .val (.ref nb4), .val (.int (3 : Int32)), .val (.int (1 : Int32)), .val (.int (0 : Int32)), .val (.int (0 : Int32)), .val (.int (1 : Int32)), .val (.int (1 : Int32)), .val (.int (1 : Int32)), .val (.int (1 : Int32)), .val (.int (1 : Int32))] [(.int (1 : Int32))])
                  refine own_retN X136 hx hlk (t := .boolean) Bd.returns (by simp) (hb hby at_267) ?_ (by decide) (by decide)
                  show Q0 n0 _ T136.heap _
                  rw [hh136]
                  exact ⟨rfl, N136⟩
                · show own_Go p e below _ T128 (mkF m 134 #[.val (.int ops), .val (.int c0), .val (.int c1), .val (.int flags), .val (.ref nb1), .val (.ref nb4), .val (.int (3 : Int32)), .val (.int (1 : Int32)), .val (.int (0 : Int32)), .val (.int (1 : Int32)), .unset, .unset, .unset, .unset, .unset] [(.int (1 : Int32)), (.ref nb4)])
                  obtain ⟨cq139, kq139, q139a, q139b, q139c⟩ := isOf hZ rfl Eq128
                  refine own_callV X128 hx (y := (⟨"com/example/kapu/kapu/service/Coverage$Part", "cover", "(Z)V"⟩ : MethodName)) (z := (⟨"com/example/kapu/kapu/service/Coverage$Part", "cover", "(Z)V"⟩ : MethodName)) hown (mvT hZ (hw _ (List.mem_of_getElem? (i := 50) rfl))) (mvT hZ (hw _ (List.mem_of_getElem? (i := 51) rfl))) (notFace_of_selects (args := #[]) (mvT hZ (hw _ (List.mem_of_getElem? (i := 53) rfl)))) (mvT hZ (hw _ (List.mem_of_getElem? (i := 53) rfl))) (mvT hZ (hw _ (List.mem_of_getElem? (i := 52) rfl))) (by decide) (backOf (W := 0) (rmC1 l Z a0 hw [] nb4 nb5 bz (1 : Int32) (1 : Int32) T128.heap n0 (Nat.le_trans Z0 K128.1) g_nb4 Eq128 Fq128_0 Fq128_1 Fq128_2 Fq128_3) hZ (hw _ (List.mem_of_getElem? (i := 54) rfl)) (hw _ (List.mem_of_getElem? (i := 3) rfl)) (by decide) (by decide)) q139a q139c (g := (mkF m 134 #[.val (.int ops), .val (.int c0), .val (.int c1), .val (.int flags), .val (.ref nb1), .val (.ref nb4), .val (.int (3 : Int32)), .val (.int (1 : Int32)), .val (.int (0 : Int32)), .val (.int (1 : Int32)), .unset, .unset, .unset, .unset, .unset] [(.int (1 : Int32)), (.ref nb4)])) rfl (by rw [hml]; rfl) (argsL := [(.int (1 : Int32))]) (rest := []) (lenOf pd_3 rfl) rfl (by show 2 * 0 + _ ≤ _; exact Nat.le_of_eq rfl) (hb hby at_134) rfl rfl (by decide) (by decide) ?_
                  rintro v138 T138 L138 X138 ⟨rfl, Nq138, Kq138, Eq138, Fq138_0, Fq138_1, Fq138_2, Fq138_3⟩
                  have N138 := Fr.app N128 Nq138
                  have K138 : Keep h0 T138.heap [] := K128.trans Kq138 (allS (Or.inr sz_nb4) all0)
                  show own_Go p e below _ T138 (mkF m 137 #[.val (.int ops), .val (.int c0), .val (.int c1), .val (.int flags), .val (.ref nb1), .val (.ref nb4), .val (.int (3 : Int32)), .val (.int (1 : Int32)), .val (.int (0 : Int32)), .val (.int (1 : Int32)), .unset, .unset, .unset, .unset, .unset] [])
                  refine own_st (fun t_ k_ => XS.iload X138.here hx rfl (hb hby at_137) rfl k_) ?_
                  show own_Go p e below _ T138 (mkF m 139 #[.val (.int ops), .val (.int c0), .val (.int c1), .val (.int flags), .val (.ref nb1), .val (.ref nb4), .val (.int (3 : Int32)), .val (.int (1 : Int32)), .val (.int (0 : Int32)), .val (.int (1 : Int32)), .unset, .unset, .unset, .unset, .unset] [(.int (3 : Int32))])
                  refine own_st (fun t_ k_ => XS.iconst X138.here hx rfl (hb hby at_139) k_) ?_
                  show own_Go p e below _ T138 (mkF m 140 #[.val (.int ops), .val (.int c0), .val (.int c1), .val (.int flags), .val (.ref nb1), .val (.ref nb4), .val (.int (3 : Int32)), .val (.int (1 : Int32)), .val (.int (0 : Int32)), .val (.int (1 : Int32)), .unset, .unset, .unset, .unset, .unset] [(.int (1 : Int32)), (.int (3 : Int32))])
                  refine own_st (fun t_ k_ => XS.icmpNo X138.here hx rfl (hb hby at_140) rfl (by decide) k_) ?_
                  show own_Go p e below _ T138 (mkF m 143 #[.val (.int ops), .val (.int c0), .val (.int c1), .val (.int flags), .val (.ref nb1), .val (.ref nb4), .val (.int (3 : Int32)), .val (.int (1 : Int32)), .val (.int (0 : Int32)), .val (.int (1 : Int32)), .unset, .unset, .unset, .unset, .unset] [])
                  refine own_st (fun t_ k_ => XS.iload X138.here hx rfl (hb hby at_143) rfl k_) ?_
                  show own_Go p e below _ T138 (mkF m 145 #[.val (.int ops), .val (.int c0), .val (.int c1), .val (.int flags), .val (.ref nb1), .val (.ref nb4), .val (.int (3 : Int32)), .val (.int (1 : Int32)), .val (.int (0 : Int32)), .val (.int (1 : Int32)), .unset, .unset, .unset, .unset, .unset] [(.int (1 : Int32))])
                  refine own_st (fun t_ k_ => XS.ifYes X138.here hx rfl (pc0 := 145) (pc' := 170) rfl (hb hby at_145) rfl (by decide) (by decide) (by decide) k_) ?_
                  show own_Go p e below _ T138 (mkF m 170 #[.val (.int ops), .val (.int c0), .val (.int c1), .val (.int flags), .val (.ref nb1), .val (.ref nb4), .val (.int (3 : Int32)), .val (.int (1 : Int32)), .val (.int (0 : Int32)), .val (.int (1 : Int32)), .unset, .unset, .unset, .unset, .unset] [])
                  refine own_st (fun t_ k_ => XS.iconst X138.here hx rfl (hb hby at_170) k_) ?_
                  show own_Go p e below _ T138 (mkF m 171 #[.val (.int ops), .val (.int c0), .val (.int c1), .val (.int flags), .val (.ref nb1), .val (.ref nb4), .val (.int (3 : Int32)), .val (.int (1 : Int32)), .val (.int (0 : Int32)), .val (.int (1 : Int32)), .unset, .unset, .unset, .unset, .unset] [(.int (1 : Int32))])
                  refine own_st (fun t_ k_ => XS.goto X138.here hx rfl (pc0 := 171) (pc' := 175) rfl (hb hby at_171) (by decide) (by decide) k_) ?_
                  show own_Go p e below _ T138 (mkF m 175 #[.val (.int ops), .val (.int c0), .val (.int c1), .val (.int flags), .val (.ref nb1), .val (.ref nb4), .val (.int (3 : Int32)), .val (.int (1 : Int32)), .val (.int (0 : Int32)), .val (.int (1 : Int32)), .unset, .unset, .unset, .unset, .unset] [(.int (1 : Int32))])
                  refine own_st (fun t_ k_ => XS.istore X138.here hx rfl (hb hby at_175) rfl (l' := #[.val (.int ops), .val (.int c0), .val (.int c1), .val (.int flags), .val (.ref nb1), .val (.ref nb4), .val (.int (3 : Int32)), .val (.int (1 : Int32)), .val (.int (0 : Int32)), .val (.int (1 : Int32)), .val (.int (1 : Int32)), .unset, .unset, .unset, .unset]) rfl k_) ?_
                  show own_Go p e below _ T138 (mkF m 177 #[.val (.int ops), .val (.int c0), .val (.int c1), .val (.int flags), .val (.ref nb1), .val (.ref nb4), .val (.int (3 : Int32)), .val (.int (1 : Int32)), .val (.int (0 : Int32)), .val (.int (1 : Int32)), .val (.int (1 : Int32)), .unset, .unset, .unset, .unset] [])
                  refine own_st (fun t_ k_ => XS.iload X138.here hx rfl (hb hby at_177) rfl k_) ?_
                  show own_Go p e below _ T138 (mkF m 179 #[.val (.int ops), .val (.int c0), .val (.int c1), .val (.int flags), .val (.ref nb1), .val (.ref nb4), .val (.int (3 : Int32)), .val (.int (1 : Int32)), .val (.int (0 : Int32)), .val (.int (1 : Int32)), .val (.int (1 : Int32)), .unset, .unset, .unset, .unset] [(.int (3 : Int32))])
                  refine own_st (fun t_ k_ => XS.iconst X138.here hx rfl (hb hby at_179) k_) ?_
                  show own_Go p e below _ T138 (mkF m 180 #[.val (.int ops), .val (.int c0), .val (.int c1), .val (.int flags), .val (.ref nb1), .val (.ref nb4), .val (.int (3 : Int32)), .val (.int (1 : Int32)), .val (.int (0 : Int32)), .val (.int (1 : Int32)), .val (.int (1 : Int32)), .unset, .unset, .unset, .unset] [(.int (1 : Int32)), (.int (3 : Int32))])
                  refine own_st (fun t_ k_ => XS.icmpNo X138.here hx rfl (hb hby at_180) rfl (by decide) k_) ?_
                  show own_Go p e below _ T138 (mkF m 183 #[.val (.int ops), .val (.int c0), .val (.int c1), .val (.int flags), .val (.ref nb1), .val (.ref nb4), .val (.int (3 : Int32)), .val (.int (1 : Int32)), .val (.int (0 : Int32)), .val (.int (1 : Int32)), .val (.int (1 : Int32)), .unset, .unset, .unset, .unset] [])
                  refine own_st (fun t_ k_ => XS.iload X138.here hx rfl (hb hby at_183) rfl k_) ?_
                  show own_Go p e below _ T138 (mkF m 185 #[.val (.int ops), .val (.int c0), .val (.int c1), .val (.int flags), .val (.ref nb1), .val (.ref nb4), .val (.int (3 : Int32)), .val (.int (1 : Int32)), .val (.int (0 : Int32)), .val (.int (1 : Int32)), .val (.int (1 : Int32)), .unset, .unset, .unset, .unset] [(.int (1 : Int32))])
                  refine own_st (fun t_ k_ => XS.ifNo X138.here hx rfl (hb hby at_185) rfl (by decide) k_) ?_
                  show own_Go p e below _ T138 (mkF m 188 #[.val (.int ops), .val (.int c0), .val (.int c1), .val (.int flags), .val (.ref nb1), .val (.ref nb4), .val (.int (3 : Int32)), .val (.int (1 : Int32)), .val (.int (0 : Int32)), .val (.int (1 : Int32)), .val (.int (1 : Int32)), .unset, .unset, .unset, .unset] [])
                  refine own_st (fun t_ k_ => XS.iload X138.here hx rfl (hb hby at_188) rfl k_) ?_
                  show own_Go p e below _ T138 (mkF m 190 #[.val (.int ops), .val (.int c0), .val (.int c1), .val (.int flags), .val (.ref nb1), .val (.ref nb4), .val (.int (3 : Int32)), .val (.int (1 : Int32)), .val (.int (0 : Int32)), .val (.int (1 : Int32)), .val (.int (1 : Int32)), .unset, .unset, .unset, .unset] [(.int (3 : Int32))])
                  refine own_st (fun t_ k_ => XS.iconst X138.here hx rfl (hb hby at_190) k_) ?_
                  show own_Go p e below _ T138 (mkF m 191 #[.val (.int ops), .val (.int c0), .val (.int c1), .val (.int flags), .val (.ref nb1), .val (.ref nb4), .val (.int (3 : Int32)), .val (.int (1 : Int32)), .val (.int (0 : Int32)), .val (.int (1 : Int32)), .val (.int (1 : Int32)), .unset, .unset, .unset, .unset] [(.int (2 : Int32)), (.int (3 : Int32))])
                  refine own_st (fun t_ k_ => XS.icmpNo X138.here hx rfl (hb hby at_191) rfl (by decide) k_) ?_
                  show own_Go p e below _ T138 (mkF m 194 #[.val (.int ops), .val (.int c0), .val (.int c1), .val (.int flags), .val (.ref nb1), .val (.ref nb4), .val (.int (3 : Int32)), .val (.int (1 : Int32)), .val (.int (0 : Int32)), .val (.int (1 : Int32)), .val (.int (1 : Int32)), .unset, .unset, .unset, .unset] [])
                  refine own_st (fun t_ k_ => XS.iload X138.here hx rfl (hb hby at_194) rfl k_) ?_
                  show own_Go p e below _ T138 (mkF m 196 #[.val (.int ops), .val (.int c0), .val (.int c1), .val (.int flags), .val (.ref nb1), .val (.ref nb4), .val (.int (3 : Int32)), .val (.int (1 : Int32)), .val (.int (0 : Int32)), .val (.int (1 : Int32)), .val (.int (1 : Int32)), .unset, .unset, .unset, .unset] [(.int (0 : Int32))])
                  refine own_st (fun t_ k_ => XS.ifYes X138.here hx rfl (pc0 := 196) (pc' := 210) rfl (hb hby at_196) rfl (by decide) (by decide) (by decide) k_) ?_
                  show own_Go p e below _ T138 (mkF m 210 #[.val (.int ops), .val (.int c0), .val (.int c1), .val (.int flags), .val (.ref nb1), .val (.ref nb4), .val (.int (3 : Int32)), .val (.int (1 : Int32)), .val (.int (0 : Int32)), .val (.int (1 : Int32)), .val (.int (1 : Int32)), .unset, .unset, .unset, .unset] [])
                  refine own_st (fun t_ k_ => XS.iconst X138.here hx rfl (hb hby at_210) k_) ?_
                  show own_Go p e below _ T138 (mkF m 211 #[.val (.int ops), .val (.int c0), .val (.int c1), .val (.int flags), .val (.ref nb1), .val (.ref nb4), .val (.int (3 : Int32)), .val (.int (1 : Int32)), .val (.int (0 : Int32)), .val (.int (1 : Int32)), .val (.int (1 : Int32)), .unset, .unset, .unset, .unset] [(.int (1 : Int32))])
                  refine own_st (fun t_ k_ => XS.goto X138.here hx rfl (pc0 := 211) (pc' := 215) rfl (hb hby at_211) (by decide) (by decide) k_) ?_
                  show own_Go p e below _ T138 (mkF m 215 #[.val (.int ops), .val (.int c0), .val (.int c1), .val (.int flags), .val (.ref nb1), .val (.ref nb4), .val (.int (3 : Int32)), .val (.int (1 : Int32)), .val (.int (0 : Int32)), .val (.int (1 : Int32)), .val (.int (1 : Int32)), .unset, .unset, .unset, .unset] [(.int (1 : Int32))])
                  refine own_st (fun t_ k_ => XS.istore X138.here hx rfl (hb hby at_215) rfl (l' := #[.val (.int ops), .val (.int c0), .val (.int c1), .val (.int flags), .val (.ref nb1), .val (.ref nb4), .val (.int (3 : Int32)), .val (.int (1 : Int32)), .val (.int (0 : Int32)), .val (.int (1 : Int32)), .val (.int (1 : Int32)), .val (.int (1 : Int32)), .unset, .unset, .unset]) rfl k_) ?_
                  show own_Go p e below _ T138 (mkF m 217 #[.val (.int ops), .val (.int c0), .val (.int c1), .val (.int flags), .val (.ref nb1), .val (.ref nb4), .val (.int (3 : Int32)), .val (.int (1 : Int32)), .val (.int (0 : Int32)), .val (.int (1 : Int32)), .val (.int (1 : Int32)), .val (.int (1 : Int32)), .unset, .unset, .unset] [])
                  refine own_st (fun t_ k_ => XS.aload X138.here hx rfl (hb hby at_217) rfl rfl k_) ?_
                  show own_Go p e below _ T138 (mkF m 219 #[.val (.int ops), .val (.int c0), .val (.int c1), .val (.int flags), .val (.ref nb1), .val (.ref nb4), .val (.int (3 : Int32)), .val (.int (1 : Int32)), .val (.int (0 : Int32)), .val (.int (1 : Int32)), .val (.int (1 : Int32)), .val (.int (1 : Int32)), .unset, .unset, .unset] [(.ref nb4)])
                  refine own_st (fun t_ k_ => XS.iconst X138.here hx rfl (hb hby at_219) k_) ?_
                  show own_Go p e below _ T138 (mkF m 220 #[.val (.int ops), .val (.int c0), .val (.int c1), .val (.int flags), .val (.ref nb1), .val (.ref nb4), .val (.int (3 : Int32)), .val (.int (1 : Int32)), .val (.int (0 : Int32)), .val (.int (1 : Int32)), .val (.int (1 : Int32)), .val (.int (1 : Int32)), .unset, .unset, .unset] [(.int (1 : Int32)), (.ref nb4)])
                  obtain ⟨cq141, kq141, q141a, q141b, q141c⟩ := isOf hZ rfl Eq138
                  refine own_callV X138 hx (y := (⟨"com/example/kapu/kapu/service/Coverage$Part", "isCovered", "(Z)Z"⟩ : MethodName)) (z := (⟨"com/example/kapu/kapu/service/Coverage$Part", "isCovered", "(Z)Z"⟩ : MethodName)) hown (mvT hZ (hw _ (List.mem_of_getElem? (i := 41) rfl))) (mvT hZ (hw _ (List.mem_of_getElem? (i := 42) rfl))) (notFace_of_selects (args := #[]) (mvT hZ (hw _ (List.mem_of_getElem? (i := 44) rfl)))) (mvT hZ (hw _ (List.mem_of_getElem? (i := 44) rfl))) (mvT hZ (hw _ (List.mem_of_getElem? (i := 43) rfl))) (by decide) (backOf (W := 0) (rmV1 l Z a0 hw [] nb4 (1 : Int32) T138.heap n0 (Nat.le_trans Z0 K138.1) Fq138_2 rfl) hZ (hw _ (List.mem_of_getElem? (i := 45) rfl)) (hw _ (List.mem_of_getElem? (i := 3) rfl)) (by decide) (by decide)) q141a q141c (g := (mkF m 220 #[.val (.int ops), .val (.int c0), .val (.int c1), .val (.int flags), .val (.ref nb1), .val (.ref nb4), .val (.int (3 : Int32)), .val (.int (1 : Int32)), .val (.int (0 : Int32)), .val (.int (1 : Int32)), .val (.int (1 : Int32)), .val (.int (1 : Int32)), .unset, .unset, .unset] [(.int (1 : Int32)), (.ref nb4)])) rfl (by rw [hml]; rfl) (argsL := [(.int (1 : Int32))]) (rest := []) (lenOf pd_2 rfl) rfl (by show 2 * 0 + _ ≤ _; exact Nat.le_of_eq rfl) (hb hby at_220) rfl rfl (by decide) (by decide) ?_
                  rintro v140 T140 L140 X140 ⟨rfl, Nq140, hh140⟩
                  have N140 := Fr.app N138 Nq140
                  show own_Go p e below _ T140 (mkF m 223 #[.val (.int ops), .val (.int c0), .val (.int c1), .val (.int flags), .val (.ref nb1), .val (.ref nb4), .val (.int (3 : Int32)), .val (.int (1 : Int32)), .val (.int (0 : Int32)), .val (.int (1 : Int32)), .val (.int (1 : Int32)), .val (.int (1 : Int32)), .unset, .unset, .unset] [(.int (1 : Int32))])
                  refine own_st (fun t_ k_ => XS.istore X140.here hx rfl (hb hby at_223) rfl (l' := #[.val (.int ops), .val (.int c0), .val (.int c1), .val (.int flags), .val (.ref nb1), .val (.ref nb4), .val (.int (3 : Int32)), .val (.int (1 : Int32)), .val (.int (0 : Int32)), .val (.int (1 : Int32)), .val (.int (1 : Int32)), .val (.int (1 : Int32)), .val (.int (1 : Int32)), .unset, .unset]) rfl k_) ?_
                  show own_Go p e below _ T140 (mkF m 225 #[.val (.int ops), .val (.int c0), .val (.int c1), .val (.int flags), .val (.ref nb1), .val (.ref nb4), .val (.int (3 : Int32)), .val (.int (1 : Int32)), .val (.int (0 : Int32)), .val (.int (1 : Int32)), .val (.int (1 : Int32)), .val (.int (1 : Int32)), .val (.int (1 : Int32)), .unset, .unset] [])
                  refine own_st (fun t_ k_ => XS.aload X140.here hx rfl (hb hby at_225) rfl rfl k_) ?_
                  show own_Go p e below _ T140 (mkF m 227 #[.val (.int ops), .val (.int c0), .val (.int c1), .val (.int flags), .val (.ref nb1), .val (.ref nb4), .val (.int (3 : Int32)), .val (.int (1 : Int32)), .val (.int (0 : Int32)), .val (.int (1 : Int32)), .val (.int (1 : Int32)), .val (.int (1 : Int32)), .val (.int (1 : Int32)), .unset, .unset] [(.ref nb4)])
                  refine own_st (fun t_ k_ => XS.iconst X140.here hx rfl (hb hby at_227) k_) ?_
                  show own_Go p e below _ T140 (mkF m 228 #[.val (.int ops), .val (.int c0), .val (.int c1), .val (.int flags), .val (.ref nb1), .val (.ref nb4), .val (.int (3 : Int32)), .val (.int (1 : Int32)), .val (.int (0 : Int32)), .val (.int (1 : Int32)), .val (.int (1 : Int32)), .val (.int (1 : Int32)), .val (.int (1 : Int32)), .unset, .unset] [(.int (0 : Int32)), (.ref nb4)])
                  obtain ⟨cq143, kq143, q143a, q143b, q143c⟩ := isOf hZ hh140 Eq138
                  refine own_callV X140 hx (y := (⟨"com/example/kapu/kapu/service/Coverage$Part", "isCovered", "(Z)Z"⟩ : MethodName)) (z := (⟨"com/example/kapu/kapu/service/Coverage$Part", "isCovered", "(Z)Z"⟩ : MethodName)) hown (mvT hZ (hw _ (List.mem_of_getElem? (i := 41) rfl))) (mvT hZ (hw _ (List.mem_of_getElem? (i := 42) rfl))) (notFace_of_selects (args := #[]) (mvT hZ (hw _ (List.mem_of_getElem? (i := 44) rfl)))) (mvT hZ (hw _ (List.mem_of_getElem? (i := 44) rfl))) (mvT hZ (hw _ (List.mem_of_getElem? (i := 43) rfl))) (by decide) (backOf (W := 0) (rmV0 l Z a0 hw [] nb4 (1 : Int32) T138.heap n0 (Nat.le_trans Z0 K138.1) Fq138_3 rfl) hZ (hw _ (List.mem_of_getElem? (i := 45) rfl)) (hw _ (List.mem_of_getElem? (i := 3) rfl)) (by decide) (by decide)) q143a q143c (g := (mkF m 228 #[.val (.int ops), .val (.int c0), .val (.int c1), .val (.int flags), .val (.ref nb1), .val (.ref nb4), .val (.int (3 : Int32)), .val (.int (1 : Int32)), .val (.int (0 : Int32)), .val (.int (1 : Int32)), .val (.int (1 : Int32)), .val (.int (1 : Int32)), .val (.int (1 : Int32)), .unset, .unset] [(.int (0 : Int32)), (.ref nb4)])) rfl (by rw [hml]; rfl) (argsL := [(.int (0 : Int32))]) (rest := []) (lenOf pd_2 rfl) rfl (by show 2 * 0 + _ ≤ _; exact Nat.le_of_eq rfl) (hb hby at_228) rfl hh140 (by decide) (by decide) ?_
                  rintro v142 T142 L142 X142 ⟨rfl, Nq142, hh142⟩
                  have N142 := Fr.app N140 Nq142
                  show own_Go p e below _ T142 (mkF m 231 #[.val (.int ops), .val (.int c0), .val (.int c1), .val (.int flags), .val (.ref nb1), .val (.ref nb4), .val (.int (3 : Int32)), .val (.int (1 : Int32)), .val (.int (0 : Int32)), .val (.int (1 : Int32)), .val (.int (1 : Int32)), .val (.int (1 : Int32)), .val (.int (1 : Int32)), .unset, .unset] [(.int (1 : Int32))])
                  refine own_st (fun t_ k_ => XS.istore X142.here hx rfl (hb hby at_231) rfl (l' := #[.val (.int ops), .val (.int c0), .val (.int c1), .val (.int flags), .val (.ref nb1), .val (.ref nb4), .val (.int (3 : Int32)), .val (.int (1 : Int32)), .val (.int (0 : Int32)), .val (.int (1 : Int32)), .val (.int (1 : Int32)), .val (.int (1 : Int32)), .val (.int (1 : Int32)), .val (.int (1 : Int32)), .unset]) rfl k_) ?_
                  show own_Go p e below _ T142 (mkF m 233 #[.val (.int ops), .val (.int c0), .val (.int c1), .val (.int flags), .val (.ref nb1), .val (.ref nb4), .val (.int (3 : Int32)), .val (.int (1 : Int32)), .val (.int (0 : Int32)), .val (.int (1 : Int32)), .val (.int (1 : Int32)), .val (.int (1 : Int32)), .val (.int (1 : Int32)), .val (.int (1 : Int32)), .unset] [])
                  refine own_st (fun t_ k_ => XS.aload X142.here hx rfl (hb hby at_233) rfl rfl k_) ?_
                  show own_Go p e below _ T142 (mkF m 235 #[.val (.int ops), .val (.int c0), .val (.int c1), .val (.int flags), .val (.ref nb1), .val (.ref nb4), .val (.int (3 : Int32)), .val (.int (1 : Int32)), .val (.int (0 : Int32)), .val (.int (1 : Int32)), .val (.int (1 : Int32)), .val (.int (1 : Int32)), .val (.int (1 : Int32)), .val (.int (1 : Int32)), .unset] [(.ref nb4)])
                  refine own_st (fun t_ k_ => XS.iconst X142.here hx rfl (hb hby at_235) k_) ?_
                  show own_Go p e below _ T142 (mkF m 236 #[.val (.int ops), .val (.int c0), .val (.int c1), .val (.int flags), .val (.ref nb1), .val (.ref nb4), .val (.int (3 : Int32)), .val (.int (1 : Int32)), .val (.int (0 : Int32)), .val (.int (1 : Int32)), .val (.int (1 : Int32)), .val (.int (1 : Int32)), .val (.int (1 : Int32)), .val (.int (1 : Int32)), .unset] [(.int (1 : Int32)), (.ref nb4)])
                  obtain ⟨cq145, kq145, q145a, q145b, q145c⟩ := isOf hZ hh142 Eq138
                  refine own_callV X142 hx (y := (⟨"com/example/kapu/kapu/service/Coverage$Part", "isCovered", "(Z)Z"⟩ : MethodName)) (z := (⟨"com/example/kapu/kapu/service/Coverage$Part", "isCovered", "(Z)Z"⟩ : MethodName)) hown (mvT hZ (hw _ (List.mem_of_getElem? (i := 41) rfl))) (mvT hZ (hw _ (List.mem_of_getElem? (i := 42) rfl))) (notFace_of_selects (args := #[]) (mvT hZ (hw _ (List.mem_of_getElem? (i := 44) rfl)))) (mvT hZ (hw _ (List.mem_of_getElem? (i := 44) rfl))) (mvT hZ (hw _ (List.mem_of_getElem? (i := 43) rfl))) (by decide) (backOf (W := 0) (rmV1 l Z a0 hw [] nb4 (1 : Int32) T138.heap n0 (Nat.le_trans Z0 K138.1) Fq138_2 rfl) hZ (hw _ (List.mem_of_getElem? (i := 45) rfl)) (hw _ (List.mem_of_getElem? (i := 3) rfl)) (by decide) (by decide)) q145a q145c (g := (mkF m 236 #[.val (.int ops), .val (.int c0), .val (.int c1), .val (.int flags), .val (.ref nb1), .val (.ref nb4), .val (.int (3 : Int32)), .val (.int (1 : Int32)), .val (.int (0 : Int32)), .val (.int (1 : Int32)), .val (.int (1 : Int32)), .val (.int (1 : Int32)), .val (.int (1 : Int32)), .val (.int (1 : Int32)), .unset] [(.int (1 : Int32)), (.ref nb4)])) rfl (by rw [hml]; rfl) (argsL := [(.int (1 : Int32))]) (rest := []) (lenOf pd_2 rfl) rfl (by show 2 * 0 + _ ≤ _; exact Nat.le_of_eq rfl) (hb hby at_236) rfl hh142 (by decide) (by decide) ?_
                  rintro v144 T144 L144 X144 ⟨rfl, Nq144, hh144⟩
                  have N144 := Fr.app N142 Nq144
                  show own_Go p e below _ T144 (mkF m 239 #[.val (.int ops), .val (.int c0), .val (.int c1), .val (.int flags), .val (.ref nb1), .val (.ref nb4), .val (.int (3 : Int32)), .val (.int (1 : Int32)), .val (.int (0 : Int32)), .val (.int (1 : Int32)), .val (.int (1 : Int32)), .val (.int (1 : Int32)), .val (.int (1 : Int32)), .val (.int (1 : Int32)), .unset] [(.int (1 : Int32))])
                  refine own_st (fun t_ k_ => XS.istore X144.here hx rfl (hb hby at_239) rfl (l' := #[.val (.int ops), .val (.int c0), .val (.int c1), .val (.int flags), .val (.ref nb1), .val (.ref nb4), .val (.int (3 : Int32)), .val (.int (1 : Int32)), .val (.int (0 : Int32)), .val (.int (1 : Int32)), .val (.int (1 : Int32)), .val (.int (1 : Int32)), .val (.int (1 : Int32)), .val (.int (1 : Int32)), .val (.int (1 : Int32))]) rfl k_) ?_
                  show own_Go p e below _ T144 (mkF m 241 #[.val (.int ops), .val (.int c0), .val (.int c1), .val (.int flags), .val (.ref nb1), .val (.ref nb4), .val (.int (3 : Int32)), .val (.int (1 : Int32)), .val (.int (0 : Int32)), .val (.int (1 : Int32)), .val (.int (1 : Int32)), .val (.int (1 : Int32)), .val (.int (1 : Int32)), .val (.int (1 : Int32)), .val (.int (1 : Int32))] [])
                  refine own_st (fun t_ k_ => XS.iload X144.here hx rfl (hb hby at_241) rfl k_) ?_
                  show own_Go p e below _ T144 (mkF m 243 #[.val (.int ops), .val (.int c0), .val (.int c1), .val (.int flags), .val (.ref nb1), .val (.ref nb4), .val (.int (3 : Int32)), .val (.int (1 : Int32)), .val (.int (0 : Int32)), .val (.int (1 : Int32)), .val (.int (1 : Int32)), .val (.int (1 : Int32)), .val (.int (1 : Int32)), .val (.int (1 : Int32)), .val (.int (1 : Int32))] [(.int (1 : Int32))])
                  refine own_st (fun t_ k_ => XS.iload X144.here hx rfl (hb hby at_243) rfl k_) ?_
                  show own_Go p e below _ T144 (mkF m 245 #[.val (.int ops), .val (.int c0), .val (.int c1), .val (.int flags), .val (.ref nb1), .val (.ref nb4), .val (.int (3 : Int32)), .val (.int (1 : Int32)), .val (.int (0 : Int32)), .val (.int (1 : Int32)), .val (.int (1 : Int32)), .val (.int (1 : Int32)), .val (.int (1 : Int32)), .val (.int (1 : Int32)), .val (.int (1 : Int32))] [(.int (1 : Int32)), (.int (1 : Int32))])
                  refine own_st (fun t_ k_ => XS.icmpNo X144.here hx rfl (hb hby at_245) rfl (by decide) k_) ?_
                  show own_Go p e below _ T144 (mkF m 248 #[.val (.int ops), .val (.int c0), .val (.int c1), .val (.int flags), .val (.ref nb1), .val (.ref nb4), .val (.int (3 : Int32)), .val (.int (1 : Int32)), .val (.int (0 : Int32)), .val (.int (1 : Int32)), .val (.int (1 : Int32)), .val (.int (1 : Int32)), .val (.int (1 : Int32)), .val (.int (1 : Int32)), .val (.int (1 : Int32))] [])
                  refine own_st (fun t_ k_ => XS.iload X144.here hx rfl (hb hby at_248) rfl k_) ?_
                  show own_Go p e below _ T144 (mkF m 250 #[.val (.int ops), .val (.int c0), .val (.int c1), .val (.int flags), .val (.ref nb1), .val (.ref nb4), .val (.int (3 : Int32)), .val (.int (1 : Int32)), .val (.int (0 : Int32)), .val (.int (1 : Int32)), .val (.int (1 : Int32)), .val (.int (1 : Int32)), .val (.int (1 : Int32)), .val (.int (1 : Int32)), .val (.int (1 : Int32))] [(.int (1 : Int32))])
                  refine own_st (fun t_ k_ => XS.iload X144.here hx rfl (hb hby at_250) rfl k_) ?_
                  show own_Go p e below _ T144 (mkF m 252 #[.val (.int ops), .val (.int c0), .val (.int c1), .val (.int flags), .val (.ref nb1), .val (.ref nb4), .val (.int (3 : Int32)), .val (.int (1 : Int32)), .val (.int (0 : Int32)), .val (.int (1 : Int32)), .val (.int (1 : Int32)), .val (.int (1 : Int32)), .val (.int (1 : Int32)), .val (.int (1 : Int32)), .val (.int (1 : Int32))] [(.int (1 : Int32)), (.int (1 : Int32))])
                  refine own_st (fun t_ k_ => XS.icmpNo X144.here hx rfl (hb hby at_252) rfl (by decide) k_) ?_
                  show own_Go p e below _ T144 (mkF m 255 #[.val (.int ops), .val (.int c0), .val (.int c1), .val (.int flags), .val (.ref nb1), .val (.ref nb4), .val (.int (3 : Int32)), .val (.int (1 : Int32)), .val (.int (0 : Int32)), .val (.int (1 : Int32)), .val (.int (1 : Int32)), .val (.int (1 : Int32)), .val (.int (1 : Int32)), .val (.int (1 : Int32)), .val (.int (1 : Int32))] [])
                  refine own_st (fun t_ k_ => XS.iload X144.here hx rfl (hb hby at_255) rfl k_) ?_
                  show own_Go p e below _ T144 (mkF m 257 #[.val (.int ops), .val (.int c0), .val (.int c1), .val (.int flags), .val (.ref nb1), .val (.ref nb4), .val (.int (3 : Int32)), .val (.int (1 : Int32)), .val (.int (0 : Int32)), .val (.int (1 : Int32)), .val (.int (1 : Int32)), .val (.int (1 : Int32)), .val (.int (1 : Int32)), .val (.int (1 : Int32)), .val (.int (1 : Int32))] [(.int (1 : Int32))])
                  refine own_st (fun t_ k_ => XS.iload X144.here hx rfl (hb hby at_257) rfl k_) ?_
                  show own_Go p e below _ T144 (mkF m 259 #[.val (.int ops), .val (.int c0), .val (.int c1), .val (.int flags), .val (.ref nb1), .val (.ref nb4), .val (.int (3 : Int32)), .val (.int (1 : Int32)), .val (.int (0 : Int32)), .val (.int (1 : Int32)), .val (.int (1 : Int32)), .val (.int (1 : Int32)), .val (.int (1 : Int32)), .val (.int (1 : Int32)), .val (.int (1 : Int32))] [(.int (1 : Int32)), (.int (1 : Int32))])
                  refine own_st (fun t_ k_ => XS.icmpNo X144.here hx rfl (hb hby at_259) rfl (by decide) k_) ?_
                  show own_Go p e below _ T144 (mkF m 262 #[.val (.int ops), .val (.int c0), .val (.int c1), .val (.int flags), .val (.ref nb1), .val (.ref nb4), .val (.int (3 : Int32)), .val (.int (1 : Int32)), .val (.int (0 : Int32)), .val (.int (1 : Int32)), .val (.int (1 : Int32)), .val (.int (1 : Int32)), .val (.int (1 : Int32)), .val (.int (1 : Int32)), .val (.int (1 : Int32))] [])
                  refine own_st (fun t_ k_ => XS.iconst X144.here hx rfl (hb hby at_262) k_) ?_
                  show own_Go p e below _ T144 (mkF m 263 #[.val (.int ops), .val (.int c0), .val (.int c1), .val (.int flags), .val (.ref nb1), .val (.ref nb4), .val (.int (3 : Int32)), .val (.int (1 : Int32)), .val (.int (0 : Int32)), .val (.int (1 : Int32)), .val (.int (1 : Int32)), .val (.int (1 : Int32)), .val (.int (1 : Int32)), .val (.int (1 : Int32)), .val (.int (1 : Int32))] [(.int (1 : Int32))])
                  refine own_st (fun t_ k_ => XS.goto X144.here hx rfl (pc0 := 263) (pc' := 267) rfl (hb hby at_263) (by decide) (by decide) k_) ?_
                  show own_Go p e below _ T144 (mkF m 267 #[.val (.int ops), .val (.int c0), .val (.int c1), .val (.int flags), .val (.ref nb1), .val (.ref nb4), .val (.int (3 : Int32)), .val (.int (1 : Int32)), .val (.int (0 : Int32)), .val (.int (1 : Int32)), .val (.int (1 : Int32)), .val (.int (1 : Int32)), .val (.int (1 : Int32)), .val (.int (1 : Int32)), .val (.int (1 : Int32))] [(.int (1 : Int32))])
                  refine own_retN X144 hx hlk (t := .boolean) Bd.returns (by simp) (hb hby at_267) ?_ (by decide) (by decide)
                  show Q0 n0 _ T144.heap _
                  rw [hh144]
                  exact ⟨rfl, N144⟩
              · show own_Go p e below _ T126 (mkF m 121 #[.val (.int ops), .val (.int c0), .val (.int c1), .val (.int flags), .val (.ref nb1), .val (.ref nb4), .val (.int (3 : Int32)), .val (.int (1 : Int32)), .val (.int (1 : Int32)), .val (.int b2), .unset, .unset, .unset, .unset, .unset] [(.int (1 : Int32)), (.ref nb4)])
                obtain ⟨cq147, kq147, q147a, q147b, q147c⟩ := isOf hZ rfl Eq126
                refine own_callV X126 hx (y := (⟨"com/example/kapu/kapu/service/Coverage$Part", "cover", "(Z)V"⟩ : MethodName)) (z := (⟨"com/example/kapu/kapu/service/Coverage$Part", "cover", "(Z)V"⟩ : MethodName)) hown (mvT hZ (hw _ (List.mem_of_getElem? (i := 50) rfl))) (mvT hZ (hw _ (List.mem_of_getElem? (i := 51) rfl))) (notFace_of_selects (args := #[]) (mvT hZ (hw _ (List.mem_of_getElem? (i := 53) rfl)))) (mvT hZ (hw _ (List.mem_of_getElem? (i := 53) rfl))) (mvT hZ (hw _ (List.mem_of_getElem? (i := 52) rfl))) (by decide) (backOf (W := 0) (rmC1 l Z a0 hw [] nb4 nb5 bz (1 : Int32) (0 : Int32) T126.heap n0 (Nat.le_trans Z0 K126.1) g_nb4 Eq126 Fq126_0 Fq126_1 Fq126_2 Fq126_3) hZ (hw _ (List.mem_of_getElem? (i := 54) rfl)) (hw _ (List.mem_of_getElem? (i := 3) rfl)) (by decide) (by decide)) q147a q147c (g := (mkF m 121 #[.val (.int ops), .val (.int c0), .val (.int c1), .val (.int flags), .val (.ref nb1), .val (.ref nb4), .val (.int (3 : Int32)), .val (.int (1 : Int32)), .val (.int (1 : Int32)), .val (.int b2), .unset, .unset, .unset, .unset, .unset] [(.int (1 : Int32)), (.ref nb4)])) rfl (by rw [hml]; rfl) (argsL := [(.int (1 : Int32))]) (rest := []) (lenOf pd_3 rfl) rfl (by show 2 * 0 + _ ≤ _; exact Nat.le_of_eq rfl) (hb hby at_121) rfl rfl (by decide) (by decide) ?_
                rintro v146 T146 L146 X146 ⟨rfl, Nq146, Kq146, Eq146, Fq146_0, Fq146_1, Fq146_2, Fq146_3⟩
                have N146 := Fr.app N126 Nq146
                have K146 : Keep h0 T146.heap [] := K126.trans Kq146 (allS (Or.inr sz_nb4) all0)
                show own_Go p e below _ T146 (mkF m 124 #[.val (.int ops), .val (.int c0), .val (.int c1), .val (.int flags), .val (.ref nb1), .val (.ref nb4), .val (.int (3 : Int32)), .val (.int (1 : Int32)), .val (.int (1 : Int32)), .val (.int b2), .unset, .unset, .unset, .unset, .unset] [])
                refine own_st (fun t_ k_ => XS.iload X146.here hx rfl (hb hby at_124) rfl k_) ?_
                show own_Go p e below _ T146 (mkF m 126 #[.val (.int ops), .val (.int c0), .val (.int c1), .val (.int flags), .val (.ref nb1), .val (.ref nb4), .val (.int (3 : Int32)), .val (.int (1 : Int32)), .val (.int (1 : Int32)), .val (.int b2), .unset, .unset, .unset, .unset, .unset] [(.int (3 : Int32))])
                refine own_st (fun t_ k_ => XS.iconst X146.here hx rfl (hb hby at_126) k_) ?_
                show own_Go p e below _ T146 (mkF m 127 #[.val (.int ops), .val (.int c0), .val (.int c1), .val (.int flags), .val (.ref nb1), .val (.ref nb4), .val (.int (3 : Int32)), .val (.int (1 : Int32)), .val (.int (1 : Int32)), .val (.int b2), .unset, .unset, .unset, .unset, .unset] [(.int (3 : Int32)), (.int (3 : Int32))])
                refine own_st (fun t_ k_ => XS.icmpNo X146.here hx rfl (hb hby at_127) rfl (by decide) k_) ?_
                show own_Go p e below _ T146 (mkF m 130 #[.val (.int ops), .val (.int c0), .val (.int c1), .val (.int flags), .val (.ref nb1), .val (.ref nb4), .val (.int (3 : Int32)), .val (.int (1 : Int32)), .val (.int (1 : Int32)), .val (.int b2), .unset, .unset, .unset, .unset, .unset] [])
                refine own_st (fun t_ k_ => XS.aload X146.here hx rfl (hb hby at_130) rfl rfl k_) ?_
                show own_Go p e below _ T146 (mkF m 132 #[.val (.int ops), .val (.int c0), .val (.int c1), .val (.int flags), .val (.ref nb1), .val (.ref nb4), .val (.int (3 : Int32)), .val (.int (1 : Int32)), .val (.int (1 : Int32)), .val (.int b2), .unset, .unset, .unset, .unset, .unset] [(.ref nb4)])
                refine own_st (fun t_ k_ => XS.iload X146.here hx rfl (hb hby at_132) rfl k_) ?_
                show own_Go p e below _ T146 (mkF m 134 #[.val (.int ops), .val (.int c0), .val (.int c1), .val (.int flags), .val (.ref nb1), .val (.ref nb4), .val (.int (3 : Int32)), .val (.int (1 : Int32)), .val (.int (1 : Int32)), .val (.int b2), .unset, .unset, .unset, .unset, .unset] [(.int b2), (.ref nb4)])
                rcases (h_b2 : b2 = (0 : Int32) ∨ b2 = (1 : Int32)) with rfl | rfl
                · show own_Go p e below _ T146 (mkF m 134 #[.val (.int ops), .val (.int c0), .val (.int c1), .val (.int flags), .val (.ref nb1), .val (.ref nb4), .val (.int (3 : Int32)), .val (.int (1 : Int32)), .val (.int (1 : Int32)), .val (.int (0 : Int32)), .unset, .unset, .unset, .unset, .unset] [(.int (0 : Int32)), (.ref nb4)])
                  obtain ⟨cq149, kq149, q149a, q149b, q149c⟩ := isOf hZ rfl Eq146
                  refine own_callV X146 hx (y := (⟨"com/example/kapu/kapu/service/Coverage$Part", "cover", "(Z)V"⟩ : MethodName)) (z := (⟨"com/example/kapu/kapu/service/Coverage$Part", "cover", "(Z)V"⟩ : MethodName)) hown (mvT hZ (hw _ (List.mem_of_getElem? (i := 50) rfl))) (mvT hZ (hw _ (List.mem_of_getElem? (i := 51) rfl))) (notFace_of_selects (args := #[]) (mvT hZ (hw _ (List.mem_of_getElem? (i := 53) rfl)))) (mvT hZ (hw _ (List.mem_of_getElem? (i := 53) rfl))) (mvT hZ (hw _ (List.mem_of_getElem? (i := 52) rfl))) (by decide) (backOf (W := 0) (rmC0 l Z a0 hw [] nb4 nb5 bz (1 : Int32) (0 : Int32) T146.heap n0 (Nat.le_trans Z0 K146.1) g_nb4 Eq146 Fq146_0 Fq146_1 Fq146_2 Fq146_3) hZ (hw _ (List.mem_of_getElem? (i := 54) rfl)) (hw _ (List.mem_of_getElem? (i := 3) rfl)) (by decide) (by decide)) q149a q149c (g := (mkF m 134 #[.val (.int ops), .val (.int c0), .val (.int c1), .val (.int flags), .val (.ref nb1), .val (.ref nb4), .val (.int (3 : Int32)), .val (.int (1 : Int32)), .val (.int (1 : Int32)), .val (.int (0 : Int32)), .unset, .unset, .unset, .unset, .unset] [(.int (0 : Int32)), (.ref nb4)])) rfl (by rw [hml]; rfl) (argsL := [(.int (0 : Int32))]) (rest := []) (lenOf pd_3 rfl) rfl (by show 2 * 0 + _ ≤ _; exact Nat.le_of_eq rfl) (hb hby at_134) rfl rfl (by decide) (by decide) ?_
                  rintro v148 T148 L148 X148 ⟨rfl, Nq148, Kq148, Eq148, Fq148_0, Fq148_1, Fq148_2, Fq148_3⟩
                  have N148 := Fr.app N146 Nq148
                  have K148 : Keep h0 T148.heap [] := K146.trans Kq148 (allS (Or.inr sz_nb4) all0)
                  show own_Go p e below _ T148 (mkF m 137 #[.val (.int ops), .val (.int c0), .val (.int c1), .val (.int flags), .val (.ref nb1), .val (.ref nb4), .val (.int (3 : Int32)), .val (.int (1 : Int32)), .val (.int (1 : Int32)), .val (.int (0 : Int32)), .unset, .unset, .unset, .unset, .unset] [])
                  refine own_st (fun t_ k_ => XS.iload X148.here hx rfl (hb hby at_137) rfl k_) ?_
                  show own_Go p e below _ T148 (mkF m 139 #[.val (.int ops), .val (.int c0), .val (.int c1), .val (.int flags), .val (.ref nb1), .val (.ref nb4), .val (.int (3 : Int32)), .val (.int (1 : Int32)), .val (.int (1 : Int32)), .val (.int (0 : Int32)), .unset, .unset, .unset, .unset, .unset] [(.int (3 : Int32))])
                  refine own_st (fun t_ k_ => XS.iconst X148.here hx rfl (hb hby at_139) k_) ?_
                  show own_Go p e below _ T148 (mkF m 140 #[.val (.int ops), .val (.int c0), .val (.int c1), .val (.int flags), .val (.ref nb1), .val (.ref nb4), .val (.int (3 : Int32)), .val (.int (1 : Int32)), .val (.int (1 : Int32)), .val (.int (0 : Int32)), .unset, .unset, .unset, .unset, .unset] [(.int (1 : Int32)), (.int (3 : Int32))])
                  refine own_st (fun t_ k_ => XS.icmpNo X148.here hx rfl (hb hby at_140) rfl (by decide) k_) ?_
                  show own_Go p e below _ T148 (mkF m 143 #[.val (.int ops), .val (.int c0), .val (.int c1), .val (.int flags), .val (.ref nb1), .val (.ref nb4), .val (.int (3 : Int32)), .val (.int (1 : Int32)), .val (.int (1 : Int32)), .val (.int (0 : Int32)), .unset, .unset, .unset, .unset, .unset] [])
                  refine own_st (fun t_ k_ => XS.iload X148.here hx rfl (hb hby at_143) rfl k_) ?_
                  show own_Go p e below _ T148 (mkF m 145 #[.val (.int ops), .val (.int c0), .val (.int c1), .val (.int flags), .val (.ref nb1), .val (.ref nb4), .val (.int (3 : Int32)), .val (.int (1 : Int32)), .val (.int (1 : Int32)), .val (.int (0 : Int32)), .unset, .unset, .unset, .unset, .unset] [(.int (1 : Int32))])
                  refine own_st (fun t_ k_ => XS.ifYes X148.here hx rfl (pc0 := 145) (pc' := 170) rfl (hb hby at_145) rfl (by decide) (by decide) (by decide) k_) ?_
                  show own_Go p e below _ T148 (mkF m 170 #[.val (.int ops), .val (.int c0), .val (.int c1), .val (.int flags), .val (.ref nb1), .val (.ref nb4), .val (.int (3 : Int32)), .val (.int (1 : Int32)), .val (.int (1 : Int32)), .val (.int (0 : Int32)), .unset, .unset, .unset, .unset, .unset] [])
                  refine own_st (fun t_ k_ => XS.iconst X148.here hx rfl (hb hby at_170) k_) ?_
                  show own_Go p e below _ T148 (mkF m 171 #[.val (.int ops), .val (.int c0), .val (.int c1), .val (.int flags), .val (.ref nb1), .val (.ref nb4), .val (.int (3 : Int32)), .val (.int (1 : Int32)), .val (.int (1 : Int32)), .val (.int (0 : Int32)), .unset, .unset, .unset, .unset, .unset] [(.int (1 : Int32))])
                  refine own_st (fun t_ k_ => XS.goto X148.here hx rfl (pc0 := 171) (pc' := 175) rfl (hb hby at_171) (by decide) (by decide) k_) ?_
                  show own_Go p e below _ T148 (mkF m 175 #[.val (.int ops), .val (.int c0), .val (.int c1), .val (.int flags), .val (.ref nb1), .val (.ref nb4), .val (.int (3 : Int32)), .val (.int (1 : Int32)), .val (.int (1 : Int32)), .val (.int (0 : Int32)), .unset, .unset, .unset, .unset, .unset] [(.int (1 : Int32))])
                  refine own_st (fun t_ k_ => XS.istore X148.here hx rfl (hb hby at_175) rfl (l' := #[.val (.int ops), .val (.int c0), .val (.int c1), .val (.int flags), .val (.ref nb1), .val (.ref nb4), .val (.int (3 : Int32)), .val (.int (1 : Int32)), .val (.int (1 : Int32)), .val (.int (0 : Int32)), .val (.int (1 : Int32)), .unset, .unset, .unset, .unset]) rfl k_) ?_
                  show own_Go p e below _ T148 (mkF m 177 #[.val (.int ops), .val (.int c0), .val (.int c1), .val (.int flags), .val (.ref nb1), .val (.ref nb4), .val (.int (3 : Int32)), .val (.int (1 : Int32)), .val (.int (1 : Int32)), .val (.int (0 : Int32)), .val (.int (1 : Int32)), .unset, .unset, .unset, .unset] [])
                  refine own_st (fun t_ k_ => XS.iload X148.here hx rfl (hb hby at_177) rfl k_) ?_
                  show own_Go p e below _ T148 (mkF m 179 #[.val (.int ops), .val (.int c0), .val (.int c1), .val (.int flags), .val (.ref nb1), .val (.ref nb4), .val (.int (3 : Int32)), .val (.int (1 : Int32)), .val (.int (1 : Int32)), .val (.int (0 : Int32)), .val (.int (1 : Int32)), .unset, .unset, .unset, .unset] [(.int (3 : Int32))])
                  refine own_st (fun t_ k_ => XS.iconst X148.here hx rfl (hb hby at_179) k_) ?_
                  show own_Go p e below _ T148 (mkF m 180 #[.val (.int ops), .val (.int c0), .val (.int c1), .val (.int flags), .val (.ref nb1), .val (.ref nb4), .val (.int (3 : Int32)), .val (.int (1 : Int32)), .val (.int (1 : Int32)), .val (.int (0 : Int32)), .val (.int (1 : Int32)), .unset, .unset, .unset, .unset] [(.int (1 : Int32)), (.int (3 : Int32))])
                  refine own_st (fun t_ k_ => XS.icmpNo X148.here hx rfl (hb hby at_180) rfl (by decide) k_) ?_
                  show own_Go p e below _ T148 (mkF m 183 #[.val (.int ops), .val (.int c0), .val (.int c1), .val (.int flags), .val (.ref nb1), .val (.ref nb4), .val (.int (3 : Int32)), .val (.int (1 : Int32)), .val (.int (1 : Int32)), .val (.int (0 : Int32)), .val (.int (1 : Int32)), .unset, .unset, .unset, .unset] [])
                  refine own_st (fun t_ k_ => XS.iload X148.here hx rfl (hb hby at_183) rfl k_) ?_
                  show own_Go p e below _ T148 (mkF m 185 #[.val (.int ops), .val (.int c0), .val (.int c1), .val (.int flags), .val (.ref nb1), .val (.ref nb4), .val (.int (3 : Int32)), .val (.int (1 : Int32)), .val (.int (1 : Int32)), .val (.int (0 : Int32)), .val (.int (1 : Int32)), .unset, .unset, .unset, .unset] [(.int (1 : Int32))])
                  refine own_st (fun t_ k_ => XS.ifNo X148.here hx rfl (hb hby at_185) rfl (by decide) k_) ?_
                  show own_Go p e below _ T148 (mkF m 188 #[.val (.int ops), .val (.int c0), .val (.int c1), .val (.int flags), .val (.ref nb1), .val (.ref nb4), .val (.int (3 : Int32)), .val (.int (1 : Int32)), .val (.int (1 : Int32)), .val (.int (0 : Int32)), .val (.int (1 : Int32)), .unset, .unset, .unset, .unset] [])
                  refine own_st (fun t_ k_ => XS.iload X148.here hx rfl (hb hby at_188) rfl k_) ?_
                  show own_Go p e below _ T148 (mkF m 190 #[.val (.int ops), .val (.int c0), .val (.int c1), .val (.int flags), .val (.ref nb1), .val (.ref nb4), .val (.int (3 : Int32)), .val (.int (1 : Int32)), .val (.int (1 : Int32)), .val (.int (0 : Int32)), .val (.int (1 : Int32)), .unset, .unset, .unset, .unset] [(.int (3 : Int32))])
                  refine own_st (fun t_ k_ => XS.iconst X148.here hx rfl (hb hby at_190) k_) ?_
                  show own_Go p e below _ T148 (mkF m 191 #[.val (.int ops), .val (.int c0), .val (.int c1), .val (.int flags), .val (.ref nb1), .val (.ref nb4), .val (.int (3 : Int32)), .val (.int (1 : Int32)), .val (.int (1 : Int32)), .val (.int (0 : Int32)), .val (.int (1 : Int32)), .unset, .unset, .unset, .unset] [(.int (2 : Int32)), (.int (3 : Int32))])
                  refine own_st (fun t_ k_ => XS.icmpNo X148.here hx rfl (hb hby at_191) rfl (by decide) k_) ?_
                  show own_Go p e below _ T148 (mkF m 194 #[.val (.int ops), .val (.int c0), .val (.int c1), .val (.int flags), .val (.ref nb1), .val (.ref nb4), .val (.int (3 : Int32)), .val (.int (1 : Int32)), .val (.int (1 : Int32)), .val (.int (0 : Int32)), .val (.int (1 : Int32)), .unset, .unset, .unset, .unset] [])
                  refine own_st (fun t_ k_ => XS.iload X148.here hx rfl (hb hby at_194) rfl k_) ?_
                  show own_Go p e below _ T148 (mkF m 196 #[.val (.int ops), .val (.int c0), .val (.int c1), .val (.int flags), .val (.ref nb1), .val (.ref nb4), .val (.int (3 : Int32)), .val (.int (1 : Int32)), .val (.int (1 : Int32)), .val (.int (0 : Int32)), .val (.int (1 : Int32)), .unset, .unset, .unset, .unset] [(.int (1 : Int32))])
                  refine own_st (fun t_ k_ => XS.ifNo X148.here hx rfl (hb hby at_196) rfl (by decide) k_) ?_
                  show own_Go p e below _ T148 (mkF m 199 #[.val (.int ops), .val (.int c0), .val (.int c1), .val (.int flags), .val (.ref nb1), .val (.ref nb4), .val (.int (3 : Int32)), .val (.int (1 : Int32)), .val (.int (1 : Int32)), .val (.int (0 : Int32)), .val (.int (1 : Int32)), .unset, .unset, .unset, .unset] [])
                  refine own_st (fun t_ k_ => XS.iload X148.here hx rfl (hb hby at_199) rfl k_) ?_
                  show own_Go p e below _ T148 (mkF m 201 #[.val (.int ops), .val (.int c0), .val (.int c1), .val (.int flags), .val (.ref nb1), .val (.ref nb4), .val (.int (3 : Int32)), .val (.int (1 : Int32)), .val (.int (1 : Int32)), .val (.int (0 : Int32)), .val (.int (1 : Int32)), .unset, .unset, .unset, .unset] [(.int (3 : Int32))])
                  refine own_st (fun t_ k_ => XS.iconst X148.here hx rfl (hb hby at_201) k_) ?_
                  show own_Go p e below _ T148 (mkF m 202 #[.val (.int ops), .val (.int c0), .val (.int c1), .val (.int flags), .val (.ref nb1), .val (.ref nb4), .val (.int (3 : Int32)), .val (.int (1 : Int32)), .val (.int (1 : Int32)), .val (.int (0 : Int32)), .val (.int (1 : Int32)), .unset, .unset, .unset, .unset] [(.int (3 : Int32)), (.int (3 : Int32))])
                  refine own_st (fun t_ k_ => XS.icmpNo X148.here hx rfl (hb hby at_202) rfl (by decide) k_) ?_
                  show own_Go p e below _ T148 (mkF m 205 #[.val (.int ops), .val (.int c0), .val (.int c1), .val (.int flags), .val (.ref nb1), .val (.ref nb4), .val (.int (3 : Int32)), .val (.int (1 : Int32)), .val (.int (1 : Int32)), .val (.int (0 : Int32)), .val (.int (1 : Int32)), .unset, .unset, .unset, .unset] [])
                  refine own_st (fun t_ k_ => XS.iload X148.here hx rfl (hb hby at_205) rfl k_) ?_
                  show own_Go p e below _ T148 (mkF m 207 #[.val (.int ops), .val (.int c0), .val (.int c1), .val (.int flags), .val (.ref nb1), .val (.ref nb4), .val (.int (3 : Int32)), .val (.int (1 : Int32)), .val (.int (1 : Int32)), .val (.int (0 : Int32)), .val (.int (1 : Int32)), .unset, .unset, .unset, .unset] [(.int (0 : Int32))])
                  refine own_st (fun t_ k_ => XS.ifNo X148.here hx rfl (hb hby at_207) rfl (by decide) k_) ?_
                  show own_Go p e below _ T148 (mkF m 210 #[.val (.int ops), .val (.int c0), .val (.int c1), .val (.int flags), .val (.ref nb1), .val (.ref nb4), .val (.int (3 : Int32)), .val (.int (1 : Int32)), .val (.int (1 : Int32)), .val (.int (0 : Int32)), .val (.int (1 : Int32)), .unset, .unset, .unset, .unset] [])
                  refine own_st (fun t_ k_ => XS.iconst X148.here hx rfl (hb hby at_210) k_) ?_
                  show own_Go p e below _ T148 (mkF m 211 #[.val (.int ops), .val (.int c0), .val (.int c1), .val (.int flags), .val (.ref nb1), .val (.ref nb4), .val (.int (3 : Int32)), .val (.int (1 : Int32)), .val (.int (1 : Int32)), .val (.int (0 : Int32)), .val (.int (1 : Int32)), .unset, .unset, .unset, .unset] [(.int (1 : Int32))])
                  refine own_st (fun t_ k_ => XS.goto X148.here hx rfl (pc0 := 211) (pc' := 215) rfl (hb hby at_211) (by decide) (by decide) k_) ?_
                  show own_Go p e below _ T148 (mkF m 215 #[.val (.int ops), .val (.int c0), .val (.int c1), .val (.int flags), .val (.ref nb1), .val (.ref nb4), .val (.int (3 : Int32)), .val (.int (1 : Int32)), .val (.int (1 : Int32)), .val (.int (0 : Int32)), .val (.int (1 : Int32)), .unset, .unset, .unset, .unset] [(.int (1 : Int32))])
                  refine own_st (fun t_ k_ => XS.istore X148.here hx rfl (hb hby at_215) rfl (l' := #[.val (.int ops), .val (.int c0), .val (.int c1), .val (.int flags), .val (.ref nb1), .val (.ref nb4), .val (.int (3 : Int32)), .val (.int (1 : Int32)), .val (.int (1 : Int32)), .val (.int (0 : Int32)), .val (.int (1 : Int32)), .val (.int (1 : Int32)), .unset, .unset, .unset]) rfl k_) ?_
                  show own_Go p e below _ T148 (mkF m 217 #[.val (.int ops), .val (.int c0), .val (.int c1), .val (.int flags), .val (.ref nb1), .val (.ref nb4), .val (.int (3 : Int32)), .val (.int (1 : Int32)), .val (.int (1 : Int32)), .val (.int (0 : Int32)), .val (.int (1 : Int32)), .val (.int (1 : Int32)), .unset, .unset, .unset] [])
                  refine own_st (fun t_ k_ => XS.aload X148.here hx rfl (hb hby at_217) rfl rfl k_) ?_
                  show own_Go p e below _ T148 (mkF m 219 #[.val (.int ops), .val (.int c0), .val (.int c1), .val (.int flags), .val (.ref nb1), .val (.ref nb4), .val (.int (3 : Int32)), .val (.int (1 : Int32)), .val (.int (1 : Int32)), .val (.int (0 : Int32)), .val (.int (1 : Int32)), .val (.int (1 : Int32)), .unset, .unset, .unset] [(.ref nb4)])
                  refine own_st (fun t_ k_ => XS.iconst X148.here hx rfl (hb hby at_219) k_) ?_
                  show own_Go p e below _ T148 (mkF m 220 #[.val (.int ops), .val (.int c0), .val (.int c1), .val (.int flags), .val (.ref nb1), .val (.ref nb4), .val (.int (3 : Int32)), .val (.int (1 : Int32)), .val (.int (1 : Int32)), .val (.int (0 : Int32)), .val (.int (1 : Int32)), .val (.int (1 : Int32)), .unset, .unset, .unset] [(.int (1 : Int32)), (.ref nb4)])
                  obtain ⟨cq151, kq151, q151a, q151b, q151c⟩ := isOf hZ rfl Eq148
                  refine own_callV X148 hx (y := (⟨"com/example/kapu/kapu/service/Coverage$Part", "isCovered", "(Z)Z"⟩ : MethodName)) (z := (⟨"com/example/kapu/kapu/service/Coverage$Part", "isCovered", "(Z)Z"⟩ : MethodName)) hown (mvT hZ (hw _ (List.mem_of_getElem? (i := 41) rfl))) (mvT hZ (hw _ (List.mem_of_getElem? (i := 42) rfl))) (notFace_of_selects (args := #[]) (mvT hZ (hw _ (List.mem_of_getElem? (i := 44) rfl)))) (mvT hZ (hw _ (List.mem_of_getElem? (i := 44) rfl))) (mvT hZ (hw _ (List.mem_of_getElem? (i := 43) rfl))) (by decide) (backOf (W := 0) (rmV1 l Z a0 hw [] nb4 (1 : Int32) T148.heap n0 (Nat.le_trans Z0 K148.1) Fq148_2 rfl) hZ (hw _ (List.mem_of_getElem? (i := 45) rfl)) (hw _ (List.mem_of_getElem? (i := 3) rfl)) (by decide) (by decide)) q151a q151c (g := (mkF m 220 #[.val (.int ops), .val (.int c0), .val (.int c1), .val (.int flags), .val (.ref nb1), .val (.ref nb4), .val (.int (3 : Int32)), .val (.int (1 : Int32)), .val (.int (1 : Int32)), .val (.int (0 : Int32)), .val (.int (1 : Int32)), .val (.int (1 : Int32)), .unset, .unset, .unset] [(.int (1 : Int32)), (.ref nb4)])) rfl (by rw [hml]; rfl) (argsL := [(.int (1 : Int32))]) (rest := []) (lenOf pd_2 rfl) rfl (by show 2 * 0 + _ ≤ _; exact Nat.le_of_eq rfl) (hb hby at_220) rfl rfl (by decide) (by decide) ?_
                  rintro v150 T150 L150 X150 ⟨rfl, Nq150, hh150⟩
                  have N150 := Fr.app N148 Nq150
                  show own_Go p e below _ T150 (mkF m 223 #[.val (.int ops), .val (.int c0), .val (.int c1), .val (.int flags), .val (.ref nb1), .val (.ref nb4), .val (.int (3 : Int32)), .val (.int (1 : Int32)), .val (.int (1 : Int32)), .val (.int (0 : Int32)), .val (.int (1 : Int32)), .val (.int (1 : Int32)), .unset, .unset, .unset] [(.int (1 : Int32))])
                  refine own_st (fun t_ k_ => XS.istore X150.here hx rfl (hb hby at_223) rfl (l' := #[.val (.int ops), .val (.int c0), .val (.int c1), .val (.int flags), .val (.ref nb1), .val (.ref nb4), .val (.int (3 : Int32)), .val (.int (1 : Int32)), .val (.int (1 : Int32)), .val (.int (0 : Int32)), .val (.int (1 : Int32)), .val (.int (1 : Int32)), .val (.int (1 : Int32)), .unset, .unset]) rfl k_) ?_
                  show own_Go p e below _ T150 (mkF m 225 #[.val (.int ops), .val (.int c0), .val (.int c1), .val (.int flags), .val (.ref nb1), .val (.ref nb4), .val (.int (3 : Int32)), .val (.int (1 : Int32)), .val (.int (1 : Int32)), .val (.int (0 : Int32)), .val (.int (1 : Int32)), .val (.int (1 : Int32)), .val (.int (1 : Int32)), .unset, .unset] [])
                  refine own_st (fun t_ k_ => XS.aload X150.here hx rfl (hb hby at_225) rfl rfl k_) ?_
                  show own_Go p e below _ T150 (mkF m 227 #[.val (.int ops), .val (.int c0), .val (.int c1), .val (.int flags), .val (.ref nb1), .val (.ref nb4), .val (.int (3 : Int32)), .val (.int (1 : Int32)), .val (.int (1 : Int32)), .val (.int (0 : Int32)), .val (.int (1 : Int32)), .val (.int (1 : Int32)), .val (.int (1 : Int32)), .unset, .unset] [(.ref nb4)])
                  refine own_st (fun t_ k_ => XS.iconst X150.here hx rfl (hb hby at_227) k_) ?_
                  show own_Go p e below _ T150 (mkF m 228 #[.val (.int ops), .val (.int c0), .val (.int c1), .val (.int flags), .val (.ref nb1), .val (.ref nb4), .val (.int (3 : Int32)), .val (.int (1 : Int32)), .val (.int (1 : Int32)), .val (.int (0 : Int32)), .val (.int (1 : Int32)), .val (.int (1 : Int32)), .val (.int (1 : Int32)), .unset, .unset] [(.int (0 : Int32)), (.ref nb4)])
                  obtain ⟨cq153, kq153, q153a, q153b, q153c⟩ := isOf hZ hh150 Eq148
                  refine own_callV X150 hx (y := (⟨"com/example/kapu/kapu/service/Coverage$Part", "isCovered", "(Z)Z"⟩ : MethodName)) (z := (⟨"com/example/kapu/kapu/service/Coverage$Part", "isCovered", "(Z)Z"⟩ : MethodName)) hown (mvT hZ (hw _ (List.mem_of_getElem? (i := 41) rfl))) (mvT hZ (hw _ (List.mem_of_getElem? (i := 42) rfl))) (notFace_of_selects (args := #[]) (mvT hZ (hw _ (List.mem_of_getElem? (i := 44) rfl)))) (mvT hZ (hw _ (List.mem_of_getElem? (i := 44) rfl))) (mvT hZ (hw _ (List.mem_of_getElem? (i := 43) rfl))) (by decide) (backOf (W := 0) (rmV0 l Z a0 hw [] nb4 (1 : Int32) T148.heap n0 (Nat.le_trans Z0 K148.1) Fq148_3 rfl) hZ (hw _ (List.mem_of_getElem? (i := 45) rfl)) (hw _ (List.mem_of_getElem? (i := 3) rfl)) (by decide) (by decide)) q153a q153c (g := (mkF m 228 #[.val (.int ops), .val (.int c0), .val (.int c1), .val (.int flags), .val (.ref nb1), .val (.ref nb4), .val (.int (3 : Int32)), .val (.int (1 : Int32)), .val (.int (1 : Int32)), .val (.int (0 : Int32)), .val (.int (1 : Int32)), .val (.int (1 : Int32)), .val (.int (1 : Int32)), .unset, .unset] [(.int (0 : Int32)), (.ref nb4)])) rfl (by rw [hml]; rfl) (argsL := [(.int (0 : Int32))]) (rest := []) (lenOf pd_2 rfl) rfl (by show 2 * 0 + _ ≤ _; exact Nat.le_of_eq rfl) (hb hby at_228) rfl hh150 (by decide) (by decide) ?_
                  rintro v152 T152 L152 X152 ⟨rfl, Nq152, hh152⟩
                  have N152 := Fr.app N150 Nq152
                  show own_Go p e below _ T152 (mkF m 231 #[.val (.int ops), .val (.int c0), .val (.int c1), .val (.int flags), .val (.ref nb1), .val (.ref nb4), .val (.int (3 : Int32)), .val (.int (1 : Int32)), .val (.int (1 : Int32)), .val (.int (0 : Int32)), .val (.int (1 : Int32)), .val (.int (1 : Int32)), .val (.int (1 : Int32)), .unset, .unset] [(.int (1 : Int32))])
                  refine own_st (fun t_ k_ => XS.istore X152.here hx rfl (hb hby at_231) rfl (l' := #[.val (.int ops), .val (.int c0), .val (.int c1), .val (.int flags), .val (.ref nb1), .val (.ref nb4), .val (.int (3 : Int32)), .val (.int (1 : Int32)), .val (.int (1 : Int32)), .val (.int (0 : Int32)), .val (.int (1 : Int32)), .val (.int (1 : Int32)), .val (.int (1 : Int32)), .val (.int (1 : Int32)), .unset]) rfl k_) ?_
                  show own_Go p e below _ T152 (mkF m 233 #[.val (.int ops), .val (.int c0), .val (.int c1), .val (.int flags), .val (.ref nb1), .val (.ref nb4), .val (.int (3 : Int32)), .val (.int (1 : Int32)), .val (.int (1 : Int32)), .val (.int (0 : Int32)), .val (.int (1 : Int32)), .val (.int (1 : Int32)), .val (.int (1 : Int32)), .val (.int (1 : Int32)), .unset] [])
                  refine own_st (fun t_ k_ => XS.aload X152.here hx rfl (hb hby at_233) rfl rfl k_) ?_
                  show own_Go p e below _ T152 (mkF m 235 #[.val (.int ops), .val (.int c0), .val (.int c1), .val (.int flags), .val (.ref nb1), .val (.ref nb4), .val (.int (3 : Int32)), .val (.int (1 : Int32)), .val (.int (1 : Int32)), .val (.int (0 : Int32)), .val (.int (1 : Int32)), .val (.int (1 : Int32)), .val (.int (1 : Int32)), .val (.int (1 : Int32)), .unset] [(.ref nb4)])
                  refine own_st (fun t_ k_ => XS.iconst X152.here hx rfl (hb hby at_235) k_) ?_
                  show own_Go p e below _ T152 (mkF m 236 #[.val (.int ops), .val (.int c0), .val (.int c1), .val (.int flags), .val (.ref nb1), .val (.ref nb4), .val (.int (3 : Int32)), .val (.int (1 : Int32)), .val (.int (1 : Int32)), .val (.int (0 : Int32)), .val (.int (1 : Int32)), .val (.int (1 : Int32)), .val (.int (1 : Int32)), .val (.int (1 : Int32)), .unset] [(.int (1 : Int32)), (.ref nb4)])
                  obtain ⟨cq155, kq155, q155a, q155b, q155c⟩ := isOf hZ hh152 Eq148
                  refine own_callV X152 hx (y := (⟨"com/example/kapu/kapu/service/Coverage$Part", "isCovered", "(Z)Z"⟩ : MethodName)) (z := (⟨"com/example/kapu/kapu/service/Coverage$Part", "isCovered", "(Z)Z"⟩ : MethodName)) hown (mvT hZ (hw _ (List.mem_of_getElem? (i := 41) rfl))) (mvT hZ (hw _ (List.mem_of_getElem? (i := 42) rfl))) (notFace_of_selects (args := #[]) (mvT hZ (hw _ (List.mem_of_getElem? (i := 44) rfl)))) (mvT hZ (hw _ (List.mem_of_getElem? (i := 44) rfl))) (mvT hZ (hw _ (List.mem_of_getElem? (i := 43) rfl))) (by decide) (backOf (W := 0) (rmV1 l Z a0 hw [] nb4 (1 : Int32) T148.heap n0 (Nat.le_trans Z0 K148.1) Fq148_2 rfl) hZ (hw _ (List.mem_of_getElem? (i := 45) rfl)) (hw _ (List.mem_of_getElem? (i := 3) rfl)) (by decide) (by decide)) q155a q155c (g := (mkF m 236 #[.val (.int ops), .val (.int c0), .val (.int c1), .val (.int flags), .val (.ref nb1), .val (.ref nb4), .val (.int (3 : Int32)), .val (.int (1 : Int32)), .val (.int (1 : Int32)), .val (.int (0 : Int32)), .val (.int (1 : Int32)), .val (.int (1 : Int32)), .val (.int (1 : Int32)), .val (.int (1 : Int32)), .unset] [(.int (1 : Int32)), (.ref nb4)])) rfl (by rw [hml]; rfl) (argsL := [(.int (1 : Int32))]) (rest := []) (lenOf pd_2 rfl) rfl (by show 2 * 0 + _ ≤ _; exact Nat.le_of_eq rfl) (hb hby at_236) rfl hh152 (by decide) (by decide) ?_
                  rintro v154 T154 L154 X154 ⟨rfl, Nq154, hh154⟩
                  have N154 := Fr.app N152 Nq154
                  show own_Go p e below _ T154 (mkF m 239 #[.val (.int ops), .val (.int c0), .val (.int c1), .val (.int flags), .val (.ref nb1), .val (.ref nb4), .val (.int (3 : Int32)), .val (.int (1 : Int32)), .val (.int (1 : Int32)), .val (.int (0 : Int32)), .val (.int (1 : Int32)), .val (.int (1 : Int32)), .val (.int (1 : Int32)), .val (.int (1 : Int32)), .unset] [(.int (1 : Int32))])
                  refine own_st (fun t_ k_ => XS.istore X154.here hx rfl (hb hby at_239) rfl (l' := #[.val (.int ops), .val (.int c0), .val (.int c1), .val (.int flags), .val (.ref nb1), .val (.ref nb4), .val (.int (3 : Int32)), .val (.int (1 : Int32)), .val (.int (1 : Int32)), .val (.int (0 : Int32)), .val (.int (1 : Int32)), .val (.int (1 : Int32)), .val (.int (1 : Int32)), .val (.int (1 : Int32)), .val (.int (1 : Int32))]) rfl k_) ?_
                  show own_Go p e below _ T154 (mkF m 241 #[.val (.int ops), .val (.int c0), .val (.int c1), .val (.int flags), .val (.ref nb1), .val (.ref nb4), .val (.int (3 : Int32)), .val (.int (1 : Int32)), .val (.int (1 : Int32)), .val (.int (0 : Int32)), .val (.int (1 : Int32)), .val (.int (1 : Int32)), .val (.int (1 : Int32)), .val (.int (1 : Int32)), .val (.int (1 : Int32))] [])
                  refine own_st (fun t_ k_ => XS.iload X154.here hx rfl (hb hby at_241) rfl k_) ?_
                  show own_Go p e below _ T154 (mkF m 243 #[.val (.int ops), .val (.int c0), .val (.int c1), .val (.int flags), .val (.ref nb1), .val (.ref nb4), .val (.int (3 : Int32)), .val (.int (1 : Int32)), .val (.int (1 : Int32)), .val (.int (0 : Int32)), .val (.int (1 : Int32)), .val (.int (1 : Int32)), .val (.int (1 : Int32)), .val (.int (1 : Int32)), .val (.int (1 : Int32))] [(.int (1 : Int32))])
                  refine own_st (fun t_ k_ => XS.iload X154.here hx rfl (hb hby at_243) rfl k_) ?_
                  show own_Go p e below _ T154 (mkF m 245 #[.val (.int ops), .val (.int c0), .val (.int c1), .val (.int flags), .val (.ref nb1), .val (.ref nb4), .val (.int (3 : Int32)), .val (.int (1 : Int32)), .val (.int (1 : Int32)), .val (.int (0 : Int32)), .val (.int (1 : Int32)), .val (.int (1 : Int32)), .val (.int (1 : Int32)), .val (.int (1 : Int32)), .val (.int (1 : Int32))] [(.int (1 : Int32)), (.int (1 : Int32))])
                  refine own_st (fun t_ k_ => XS.icmpNo X154.here hx rfl (hb hby at_245) rfl (by decide) k_) ?_
                  show own_Go p e below _ T154 (mkF m 248 #[.val (.int ops), .val (.int c0), .val (.int c1), .val (.int flags), .val (.ref nb1), .val (.ref nb4), .val (.int (3 : Int32)), .val (.int (1 : Int32)), .val (.int (1 : Int32)), .val (.int (0 : Int32)), .val (.int (1 : Int32)), .val (.int (1 : Int32)), .val (.int (1 : Int32)), .val (.int (1 : Int32)), .val (.int (1 : Int32))] [])
                  refine own_st (fun t_ k_ => XS.iload X154.here hx rfl (hb hby at_248) rfl k_) ?_
                  show own_Go p e below _ T154 (mkF m 250 #[.val (.int ops), .val (.int c0), .val (.int c1), .val (.int flags), .val (.ref nb1), .val (.ref nb4), .val (.int (3 : Int32)), .val (.int (1 : Int32)), .val (.int (1 : Int32)), .val (.int (0 : Int32)), .val (.int (1 : Int32)), .val (.int (1 : Int32)), .val (.int (1 : Int32)), .val (.int (1 : Int32)), .val (.int (1 : Int32))] [(.int (1 : Int32))])
                  refine own_st (fun t_ k_ => XS.iload X154.here hx rfl (hb hby at_250) rfl k_) ?_
                  show own_Go p e below _ T154 (mkF m 252 #[.val (.int ops), .val (.int c0), .val (.int c1), .val (.int flags), .val (.ref nb1), .val (.ref nb4), .val (.int (3 : Int32)), .val (.int (1 : Int32)), .val (.int (1 : Int32)), .val (.int (0 : Int32)), .val (.int (1 : Int32)), .val (.int (1 : Int32)), .val (.int (1 : Int32)), .val (.int (1 : Int32)), .val (.int (1 : Int32))] [(.int (1 : Int32)), (.int (1 : Int32))])
                  refine own_st (fun t_ k_ => XS.icmpNo X154.here hx rfl (hb hby at_252) rfl (by decide) k_) ?_
                  show own_Go p e below _ T154 (mkF m 255 #[.val (.int ops), .val (.int c0), .val (.int c1), .val (.int flags), .val (.ref nb1), .val (.ref nb4), .val (.int (3 : Int32)), .val (.int (1 : Int32)), .val (.int (1 : Int32)), .val (.int (0 : Int32)), .val (.int (1 : Int32)), .val (.int (1 : Int32)), .val (.int (1 : Int32)), .val (.int (1 : Int32)), .val (.int (1 : Int32))] [])
                  refine own_st (fun t_ k_ => XS.iload X154.here hx rfl (hb hby at_255) rfl k_) ?_
                  show own_Go p e below _ T154 (mkF m 257 #[.val (.int ops), .val (.int c0), .val (.int c1), .val (.int flags), .val (.ref nb1), .val (.ref nb4), .val (.int (3 : Int32)), .val (.int (1 : Int32)), .val (.int (1 : Int32)), .val (.int (0 : Int32)), .val (.int (1 : Int32)), .val (.int (1 : Int32)), .val (.int (1 : Int32)), .val (.int (1 : Int32)), .val (.int (1 : Int32))] [(.int (1 : Int32))])
                  refine own_st (fun t_ k_ => XS.iload X154.here hx rfl (hb hby at_257) rfl k_) ?_
                  show own_Go p e below _ T154 (mkF m 259 #[.val (.int ops), .val (.int c0), .val (.int c1), .val (.int flags), .val (.ref nb1), .val (.ref nb4), .val (.int (3 : Int32)), .val (.int (1 : Int32)), .val (.int (1 : Int32)), .val (.int (0 : Int32)), .val (.int (1 : Int32)), .val (.int (1 : Int32)), .val (.int (1 : Int32)), .val (.int (1 : Int32)), .val (.int (1 : Int32))] [(.int (1 : Int32)), (.int (1 : Int32))])
                  refine own_st (fun t_ k_ => XS.icmpNo X154.here hx rfl (hb hby at_259) rfl (by decide) k_) ?_
                  show own_Go p e below _ T154 (mkF m 262 #[.val (.int ops), .val (.int c0), .val (.int c1), .val (.int flags), .val (.ref nb1), .val (.ref nb4), .val (.int (3 : Int32)), .val (.int (1 : Int32)), .val (.int (1 : Int32)), .val (.int (0 : Int32)), .val (.int (1 : Int32)), .val (.int (1 : Int32)), .val (.int (1 : Int32)), .val (.int (1 : Int32)), .val (.int (1 : Int32))] [])
                  refine own_st (fun t_ k_ => XS.iconst X154.here hx rfl (hb hby at_262) k_) ?_
                  show own_Go p e below _ T154 (mkF m 263 #[.val (.int ops), .val (.int c0), .val (.int c1), .val (.int flags), .val (.ref nb1), .val (.ref nb4), .val (.int (3 : Int32)), .val (.int (1 : Int32)), .val (.int (1 : Int32)), .val (.int (0 : Int32)), .val (.int (1 : Int32)), .val (.int (1 : Int32)), .val (.int (1 : Int32)), .val (.int (1 : Int32)), .val (.int (1 : Int32))] [(.int (1 : Int32))])
                  refine own_st (fun t_ k_ => XS.goto X154.here hx rfl (pc0 := 263) (pc' := 267) rfl (hb hby at_263) (by decide) (by decide) k_) ?_
                  show own_Go p e below _ T154 (mkF m 267 #[.val (.int ops), .val (.int c0), .val (.int c1), .val (.int flags), .val (.ref nb1), .val (.ref nb4), .val (.int (3 : Int32)), .val (.int (1 : Int32)), .val (.int (1 : Int32)), .val (.int (0 : Int32)), .val (.int (1 : Int32)), .val (.int (1 : Int32)), .val (.int (1 : Int32)), .val (.int (1 : Int32)), .val (.int (1 : Int32))] [(.int (1 : Int32))])
                  refine own_retN X154 hx hlk (t := .boolean) Bd.returns (by simp) (hb hby at_267) ?_ (by decide) (by decide)
                  show Q0 n0 _ T154.heap _
                  rw [hh154]
                  exact ⟨rfl, N154⟩
                · show own_Go p e below _ T146 (mkF m 134 #[.val (.int ops), .val (.int c0), .val (.int c1), .val (.int flags), .val (.ref nb1), .val (.ref nb4), .val (.int (3 : Int32)), .val (.int (1 : Int32)), .val (.int (1 : Int32)), .val (.int (1 : Int32)), .unset, .unset, .unset, .unset, .unset] [(.int (1 : Int32)), (.ref nb4)])
                  obtain ⟨cq157, kq157, q157a, q157b, q157c⟩ := isOf hZ rfl Eq146
                  refine own_callV X146 hx (y := (⟨"com/example/kapu/kapu/service/Coverage$Part", "cover", "(Z)V"⟩ : MethodName)) (z := (⟨"com/example/kapu/kapu/service/Coverage$Part", "cover", "(Z)V"⟩ : MethodName)) hown (mvT hZ (hw _ (List.mem_of_getElem? (i := 50) rfl))) (mvT hZ (hw _ (List.mem_of_getElem? (i := 51) rfl))) (notFace_of_selects (args := #[]) (mvT hZ (hw _ (List.mem_of_getElem? (i := 53) rfl)))) (mvT hZ (hw _ (List.mem_of_getElem? (i := 53) rfl))) (mvT hZ (hw _ (List.mem_of_getElem? (i := 52) rfl))) (by decide) (backOf (W := 0) (rmC1 l Z a0 hw [] nb4 nb5 bz (1 : Int32) (0 : Int32) T146.heap n0 (Nat.le_trans Z0 K146.1) g_nb4 Eq146 Fq146_0 Fq146_1 Fq146_2 Fq146_3) hZ (hw _ (List.mem_of_getElem? (i := 54) rfl)) (hw _ (List.mem_of_getElem? (i := 3) rfl)) (by decide) (by decide)) q157a q157c (g := (mkF m 134 #[.val (.int ops), .val (.int c0), .val (.int c1), .val (.int flags), .val (.ref nb1), .val (.ref nb4), .val (.int (3 : Int32)), .val (.int (1 : Int32)), .val (.int (1 : Int32)), .val (.int (1 : Int32)), .unset, .unset, .unset, .unset, .unset] [(.int (1 : Int32)), (.ref nb4)])) rfl (by rw [hml]; rfl) (argsL := [(.int (1 : Int32))]) (rest := []) (lenOf pd_3 rfl) rfl (by show 2 * 0 + _ ≤ _; exact Nat.le_of_eq rfl) (hb hby at_134) rfl rfl (by decide) (by decide) ?_
                  rintro v156 T156 L156 X156 ⟨rfl, Nq156, Kq156, Eq156, Fq156_0, Fq156_1, Fq156_2, Fq156_3⟩
                  have N156 := Fr.app N146 Nq156
                  have K156 : Keep h0 T156.heap [] := K146.trans Kq156 (allS (Or.inr sz_nb4) all0)
                  show own_Go p e below _ T156 (mkF m 137 #[.val (.int ops), .val (.int c0), .val (.int c1), .val (.int flags), .val (.ref nb1), .val (.ref nb4), .val (.int (3 : Int32)), .val (.int (1 : Int32)), .val (.int (1 : Int32)), .val (.int (1 : Int32)), .unset, .unset, .unset, .unset, .unset] [])
                  refine own_st (fun t_ k_ => XS.iload X156.here hx rfl (hb hby at_137) rfl k_) ?_
                  show own_Go p e below _ T156 (mkF m 139 #[.val (.int ops), .val (.int c0), .val (.int c1), .val (.int flags), .val (.ref nb1), .val (.ref nb4), .val (.int (3 : Int32)), .val (.int (1 : Int32)), .val (.int (1 : Int32)), .val (.int (1 : Int32)), .unset, .unset, .unset, .unset, .unset] [(.int (3 : Int32))])
                  refine own_st (fun t_ k_ => XS.iconst X156.here hx rfl (hb hby at_139) k_) ?_
                  show own_Go p e below _ T156 (mkF m 140 #[.val (.int ops), .val (.int c0), .val (.int c1), .val (.int flags), .val (.ref nb1), .val (.ref nb4), .val (.int (3 : Int32)), .val (.int (1 : Int32)), .val (.int (1 : Int32)), .val (.int (1 : Int32)), .unset, .unset, .unset, .unset, .unset] [(.int (1 : Int32)), (.int (3 : Int32))])
                  refine own_st (fun t_ k_ => XS.icmpNo X156.here hx rfl (hb hby at_140) rfl (by decide) k_) ?_
                  show own_Go p e below _ T156 (mkF m 143 #[.val (.int ops), .val (.int c0), .val (.int c1), .val (.int flags), .val (.ref nb1), .val (.ref nb4), .val (.int (3 : Int32)), .val (.int (1 : Int32)), .val (.int (1 : Int32)), .val (.int (1 : Int32)), .unset, .unset, .unset, .unset, .unset] [])
                  refine own_st (fun t_ k_ => XS.iload X156.here hx rfl (hb hby at_143) rfl k_) ?_
                  show own_Go p e below _ T156 (mkF m 145 #[.val (.int ops), .val (.int c0), .val (.int c1), .val (.int flags), .val (.ref nb1), .val (.ref nb4), .val (.int (3 : Int32)), .val (.int (1 : Int32)), .val (.int (1 : Int32)), .val (.int (1 : Int32)), .unset, .unset, .unset, .unset, .unset] [(.int (1 : Int32))])
                  refine own_st (fun t_ k_ => XS.ifYes X156.here hx rfl (pc0 := 145) (pc' := 170) rfl (hb hby at_145) rfl (by decide) (by decide) (by decide) k_) ?_
                  show own_Go p e below _ T156 (mkF m 170 #[.val (.int ops), .val (.int c0), .val (.int c1), .val (.int flags), .val (.ref nb1), .val (.ref nb4), .val (.int (3 : Int32)), .val (.int (1 : Int32)), .val (.int (1 : Int32)), .val (.int (1 : Int32)), .unset, .unset, .unset, .unset, .unset] [])
                  refine own_st (fun t_ k_ => XS.iconst X156.here hx rfl (hb hby at_170) k_) ?_
                  show own_Go p e below _ T156 (mkF m 171 #[.val (.int ops), .val (.int c0), .val (.int c1), .val (.int flags), .val (.ref nb1), .val (.ref nb4), .val (.int (3 : Int32)), .val (.int (1 : Int32)), .val (.int (1 : Int32)), .val (.int (1 : Int32)), .unset, .unset, .unset, .unset, .unset] [(.int (1 : Int32))])
                  refine own_st (fun t_ k_ => XS.goto X156.here hx rfl (pc0 := 171) (pc' := 175) rfl (hb hby at_171) (by decide) (by decide) k_) ?_
                  show own_Go p e below _ T156 (mkF m 175 #[.val (.int ops), .val (.int c0), .val (.int c1), .val (.int flags), .val (.ref nb1), .val (.ref nb4), .val (.int (3 : Int32)), .val (.int (1 : Int32)), .val (.int (1 : Int32)), .val (.int (1 : Int32)), .unset, .unset, .unset, .unset, .unset] [(.int (1 : Int32))])
                  refine own_st (fun t_ k_ => XS.istore X156.here hx rfl (hb hby at_175) rfl (l' := #[.val (.int ops), .val (.int c0), .val (.int c1), .val (.int flags), .val (.ref nb1), .val (.ref nb4), .val (.int (3 : Int32)), .val (.int (1 : Int32)), .val (.int (1 : Int32)), .val (.int (1 : Int32)), .val (.int (1 : Int32)), .unset, .unset, .unset, .unset]) rfl k_) ?_
                  show own_Go p e below _ T156 (mkF m 177 #[.val (.int ops), .val (.int c0), .val (.int c1), .val (.int flags), .val (.ref nb1), .val (.ref nb4), .val (.int (3 : Int32)), .val (.int (1 : Int32)), .val (.int (1 : Int32)), .val (.int (1 : Int32)), .val (.int (1 : Int32)), .unset, .unset, .unset, .unset] [])
                  refine own_st (fun t_ k_ => XS.iload X156.here hx rfl (hb hby at_177) rfl k_) ?_
                  show own_Go p e below _ T156 (mkF m 179 #[.val (.int ops), .val (.int c0), .val (.int c1), .val (.int flags), .val (.ref nb1), .val (.ref nb4), .val (.int (3 : Int32)), .val (.int (1 : Int32)), .val (.int (1 : Int32)), .val (.int (1 : Int32)), .val (.int (1 : Int32)), .unset, .unset, .unset, .unset] [(.int (3 : Int32))])
                  refine own_st (fun t_ k_ => XS.iconst X156.here hx rfl (hb hby at_179) k_) ?_
                  show own_Go p e below _ T156 (mkF m 180 #[.val (.int ops), .val (.int c0), .val (.int c1), .val (.int flags), .val (.ref nb1), .val (.ref nb4), .val (.int (3 : Int32)), .val (.int (1 : Int32)), .val (.int (1 : Int32)), .val (.int (1 : Int32)), .val (.int (1 : Int32)), .unset, .unset, .unset, .unset] [(.int (1 : Int32)), (.int (3 : Int32))])
                  refine own_st (fun t_ k_ => XS.icmpNo X156.here hx rfl (hb hby at_180) rfl (by decide) k_) ?_
                  show own_Go p e below _ T156 (mkF m 183 #[.val (.int ops), .val (.int c0), .val (.int c1), .val (.int flags), .val (.ref nb1), .val (.ref nb4), .val (.int (3 : Int32)), .val (.int (1 : Int32)), .val (.int (1 : Int32)), .val (.int (1 : Int32)), .val (.int (1 : Int32)), .unset, .unset, .unset, .unset] [])
                  refine own_st (fun t_ k_ => XS.iload X156.here hx rfl (hb hby at_183) rfl k_) ?_
                  show own_Go p e below _ T156 (mkF m 185 #[.val (.int ops), .val (.int c0), .val (.int c1), .val (.int flags), .val (.ref nb1), .val (.ref nb4), .val (.int (3 : Int32)), .val (.int (1 : Int32)), .val (.int (1 : Int32)), .val (.int (1 : Int32)), .val (.int (1 : Int32)), .unset, .unset, .unset, .unset] [(.int (1 : Int32))])
                  refine own_st (fun t_ k_ => XS.ifNo X156.here hx rfl (hb hby at_185) rfl (by decide) k_) ?_
                  show own_Go p e below _ T156 (mkF m 188 #[.val (.int ops), .val (.int c0), .val (.int c1), .val (.int flags), .val (.ref nb1), .val (.ref nb4), .val (.int (3 : Int32)), .val (.int (1 : Int32)), .val (.int (1 : Int32)), .val (.int (1 : Int32)), .val (.int (1 : Int32)), .unset, .unset, .unset, .unset] [])
                  refine own_st (fun t_ k_ => XS.iload X156.here hx rfl (hb hby at_188) rfl k_) ?_
                  show own_Go p e below _ T156 (mkF m 190 #[.val (.int ops), .val (.int c0), .val (.int c1), .val (.int flags), .val (.ref nb1), .val (.ref nb4), .val (.int (3 : Int32)), .val (.int (1 : Int32)), .val (.int (1 : Int32)), .val (.int (1 : Int32)), .val (.int (1 : Int32)), .unset, .unset, .unset, .unset] [(.int (3 : Int32))])
                  refine own_st (fun t_ k_ => XS.iconst X156.here hx rfl (hb hby at_190) k_) ?_
                  show own_Go p e below _ T156 (mkF m 191 #[.val (.int ops), .val (.int c0), .val (.int c1), .val (.int flags), .val (.ref nb1), .val (.ref nb4), .val (.int (3 : Int32)), .val (.int (1 : Int32)), .val (.int (1 : Int32)), .val (.int (1 : Int32)), .val (.int (1 : Int32)), .unset, .unset, .unset, .unset] [(.int (2 : Int32)), (.int (3 : Int32))])
                  refine own_st (fun t_ k_ => XS.icmpNo X156.here hx rfl (hb hby at_191) rfl (by decide) k_) ?_
                  show own_Go p e below _ T156 (mkF m 194 #[.val (.int ops), .val (.int c0), .val (.int c1), .val (.int flags), .val (.ref nb1), .val (.ref nb4), .val (.int (3 : Int32)), .val (.int (1 : Int32)), .val (.int (1 : Int32)), .val (.int (1 : Int32)), .val (.int (1 : Int32)), .unset, .unset, .unset, .unset] [])
                  refine own_st (fun t_ k_ => XS.iload X156.here hx rfl (hb hby at_194) rfl k_) ?_
                  show own_Go p e below _ T156 (mkF m 196 #[.val (.int ops), .val (.int c0), .val (.int c1), .val (.int flags), .val (.ref nb1), .val (.ref nb4), .val (.int (3 : Int32)), .val (.int (1 : Int32)), .val (.int (1 : Int32)), .val (.int (1 : Int32)), .val (.int (1 : Int32)), .unset, .unset, .unset, .unset] [(.int (1 : Int32))])
                  refine own_st (fun t_ k_ => XS.ifNo X156.here hx rfl (hb hby at_196) rfl (by decide) k_) ?_
                  show own_Go p e below _ T156 (mkF m 199 #[.val (.int ops), .val (.int c0), .val (.int c1), .val (.int flags), .val (.ref nb1), .val (.ref nb4), .val (.int (3 : Int32)), .val (.int (1 : Int32)), .val (.int (1 : Int32)), .val (.int (1 : Int32)), .val (.int (1 : Int32)), .unset, .unset, .unset, .unset] [])
                  refine own_st (fun t_ k_ => XS.iload X156.here hx rfl (hb hby at_199) rfl k_) ?_
                  show own_Go p e below _ T156 (mkF m 201 #[.val (.int ops), .val (.int c0), .val (.int c1), .val (.int flags), .val (.ref nb1), .val (.ref nb4), .val (.int (3 : Int32)), .val (.int (1 : Int32)), .val (.int (1 : Int32)), .val (.int (1 : Int32)), .val (.int (1 : Int32)), .unset, .unset, .unset, .unset] [(.int (3 : Int32))])
                  refine own_st (fun t_ k_ => XS.iconst X156.here hx rfl (hb hby at_201) k_) ?_
                  show own_Go p e below _ T156 (mkF m 202 #[.val (.int ops), .val (.int c0), .val (.int c1), .val (.int flags), .val (.ref nb1), .val (.ref nb4), .val (.int (3 : Int32)), .val (.int (1 : Int32)), .val (.int (1 : Int32)), .val (.int (1 : Int32)), .val (.int (1 : Int32)), .unset, .unset, .unset, .unset] [(.int (3 : Int32)), (.int (3 : Int32))])
                  refine own_st (fun t_ k_ => XS.icmpNo X156.here hx rfl (hb hby at_202) rfl (by decide) k_) ?_
                  show own_Go p e below _ T156 (mkF m 205 #[.val (.int ops), .val (.int c0), .val (.int c1), .val (.int flags), .val (.ref nb1), .val (.ref nb4), .val (.int (3 : Int32)), .val (.int (1 : Int32)), .val (.int (1 : Int32)), .val (.int (1 : Int32)), .val (.int (1 : Int32)), .unset, .unset, .unset, .unset] [])
                  refine own_st (fun t_ k_ => XS.iload X156.here hx rfl (hb hby at_205) rfl k_) ?_
                  show own_Go p e below _ T156 (mkF m 207 #[.val (.int ops), .val (.int c0), .val (.int c1), .val (.int flags), .val (.ref nb1), .val (.ref nb4), .val (.int (3 : Int32)), .val (.int (1 : Int32)), .val (.int (1 : Int32)), .val (.int (1 : Int32)), .val (.int (1 : Int32)), .unset, .unset, .unset, .unset] [(.int (1 : Int32))])
                  refine own_st (fun t_ k_ => XS.ifYes X156.here hx rfl (pc0 := 207) (pc' := 214) rfl (hb hby at_207) rfl (by decide) (by decide) (by decide) k_) ?_
                  show own_Go p e below _ T156 (mkF m 214 #[.val (.int ops), .val (.int c0), .val (.int c1), .val (.int flags), .val (.ref nb1), .val (.ref nb4), .val (.int (3 : Int32)), .val (.int (1 : Int32)), .val (.int (1 : Int32)), .val (.int (1 : Int32)), .val (.int (1 : Int32)), .unset, .unset, .unset, .unset] [])
                  refine own_st (fun t_ k_ => XS.iconst X156.here hx rfl (hb hby at_214) k_) ?_
                  show own_Go p e below _ T156 (mkF m 215 #[.val (.int ops), .val (.int c0), .val (.int c1), .val (.int flags), .val (.ref nb1), .val (.ref nb4), .val (.int (3 : Int32)), .val (.int (1 : Int32)), .val (.int (1 : Int32)), .val (.int (1 : Int32)), .val (.int (1 : Int32)), .unset, .unset, .unset, .unset] [(.int (0 : Int32))])
                  refine own_st (fun t_ k_ => XS.istore X156.here hx rfl (hb hby at_215) rfl (l' := #[.val (.int ops), .val (.int c0), .val (.int c1), .val (.int flags), .val (.ref nb1), .val (.ref nb4), .val (.int (3 : Int32)), .val (.int (1 : Int32)), .val (.int (1 : Int32)), .val (.int (1 : Int32)), .val (.int (1 : Int32)), .val (.int (0 : Int32)), .unset, .unset, .unset]) rfl k_) ?_
                  show own_Go p e below _ T156 (mkF m 217 #[.val (.int ops), .val (.int c0), .val (.int c1), .val (.int flags), .val (.ref nb1), .val (.ref nb4), .val (.int (3 : Int32)), .val (.int (1 : Int32)), .val (.int (1 : Int32)), .val (.int (1 : Int32)), .val (.int (1 : Int32)), .val (.int (0 : Int32)), .unset, .unset, .unset] [])
                  refine own_st (fun t_ k_ => XS.aload X156.here hx rfl (hb hby at_217) rfl rfl k_) ?_
                  show own_Go p e below _ T156 (mkF m 219 #[.val (.int ops), .val (.int c0), .val (.int c1), .val (.int flags), .val (.ref nb1), .val (.ref nb4), .val (.int (3 : Int32)), .val (.int (1 : Int32)), .val (.int (1 : Int32)), .val (.int (1 : Int32)), .val (.int (1 : Int32)), .val (.int (0 : Int32)), .unset, .unset, .unset] [(.ref nb4)])
                  refine own_st (fun t_ k_ => XS.iconst X156.here hx rfl (hb hby at_219) k_) ?_
                  show own_Go p e below _ T156 (mkF m 220 #[.val (.int ops), .val (.int c0), .val (.int c1), .val (.int flags), .val (.ref nb1), .val (.ref nb4), .val (.int (3 : Int32)), .val (.int (1 : Int32)), .val (.int (1 : Int32)), .val (.int (1 : Int32)), .val (.int (1 : Int32)), .val (.int (0 : Int32)), .unset, .unset, .unset] [(.int (1 : Int32)), (.ref nb4)])
                  obtain ⟨cq159, kq159, q159a, q159b, q159c⟩ := isOf hZ rfl Eq156
                  refine own_callV X156 hx (y := (⟨"com/example/kapu/kapu/service/Coverage$Part", "isCovered", "(Z)Z"⟩ : MethodName)) (z := (⟨"com/example/kapu/kapu/service/Coverage$Part", "isCovered", "(Z)Z"⟩ : MethodName)) hown (mvT hZ (hw _ (List.mem_of_getElem? (i := 41) rfl))) (mvT hZ (hw _ (List.mem_of_getElem? (i := 42) rfl))) (notFace_of_selects (args := #[]) (mvT hZ (hw _ (List.mem_of_getElem? (i := 44) rfl)))) (mvT hZ (hw _ (List.mem_of_getElem? (i := 44) rfl))) (mvT hZ (hw _ (List.mem_of_getElem? (i := 43) rfl))) (by decide) (backOf (W := 0) (rmV1 l Z a0 hw [] nb4 (1 : Int32) T156.heap n0 (Nat.le_trans Z0 K156.1) Fq156_2 rfl) hZ (hw _ (List.mem_of_getElem? (i := 45) rfl)) (hw _ (List.mem_of_getElem? (i := 3) rfl)) (by decide) (by decide)) q159a q159c (g := (mkF m 220 #[.val (.int ops), .val (.int c0), .val (.int c1), .val (.int flags), .val (.ref nb1), .val (.ref nb4), .val (.int (3 : Int32)), .val (.int (1 : Int32)), .val (.int (1 : Int32)), .val (.int (1 : Int32)), .val (.int (1 : Int32)), .val (.int (0 : Int32)), .unset, .unset, .unset] [(.int (1 : Int32)), (.ref nb4)])) rfl (by rw [hml]; rfl) (argsL := [(.int (1 : Int32))]) (rest := []) (lenOf pd_2 rfl) rfl (by show 2 * 0 + _ ≤ _; exact Nat.le_of_eq rfl) (hb hby at_220) rfl rfl (by decide) (by decide) ?_
                  rintro v158 T158 L158 X158 ⟨rfl, Nq158, hh158⟩
                  have N158 := Fr.app N156 Nq158
                  show own_Go p e below _ T158 (mkF m 223 #[.val (.int ops), .val (.int c0), .val (.int c1), .val (.int flags), .val (.ref nb1), .val (.ref nb4), .val (.int (3 : Int32)), .val (.int (1 : Int32)), .val (.int (1 : Int32)), .val (.int (1 : Int32)), .val (.int (1 : Int32)), .val (.int (0 : Int32)), .unset, .unset, .unset] [(.int (1 : Int32))])
                  refine own_st (fun t_ k_ => XS.istore X158.here hx rfl (hb hby at_223) rfl (l' := #[.val (.int ops), .val (.int c0), .val (.int c1), .val (.int flags), .val (.ref nb1), .val (.ref nb4), .val (.int (3 : Int32)), .val (.int (1 : Int32)), .val (.int (1 : Int32)), .val (.int (1 : Int32)), .val (.int (1 : Int32)), .val (.int (0 : Int32)), .val (.int (1 : Int32)), .unset, .unset]) rfl k_) ?_
                  show own_Go p e below _ T158 (mkF m 225 #[.val (.int ops), .val (.int c0), .val (.int c1), .val (.int flags), .val (.ref nb1), .val (.ref nb4), .val (.int (3 : Int32)), .val (.int (1 : Int32)), .val (.int (1 : Int32)), .val (.int (1 : Int32)), .val (.int (1 : Int32)), .val (.int (0 : Int32)), .val (.int (1 : Int32)), .unset, .unset] [])
                  refine own_st (fun t_ k_ => XS.aload X158.here hx rfl (hb hby at_225) rfl rfl k_) ?_
                  show own_Go p e below _ T158 (mkF m 227 #[.val (.int ops), .val (.int c0), .val (.int c1), .val (.int flags), .val (.ref nb1), .val (.ref nb4), .val (.int (3 : Int32)), .val (.int (1 : Int32)), .val (.int (1 : Int32)), .val (.int (1 : Int32)), .val (.int (1 : Int32)), .val (.int (0 : Int32)), .val (.int (1 : Int32)), .unset, .unset] [(.ref nb4)])
                  refine own_st (fun t_ k_ => XS.iconst X158.here hx rfl (hb hby at_227) k_) ?_
                  show own_Go p e below _ T158 (mkF m 228 #[.val (.int ops), .val (.int c0), .val (.int c1), .val (.int flags), .val (.ref nb1), .val (.ref nb4), .val (.int (3 : Int32)), .val (.int (1 : Int32)), .val (.int (1 : Int32)), .val (.int (1 : Int32)), .val (.int (1 : Int32)), .val (.int (0 : Int32)), .val (.int (1 : Int32)), .unset, .unset] [(.int (0 : Int32)), (.ref nb4)])
                  obtain ⟨cq161, kq161, q161a, q161b, q161c⟩ := isOf hZ hh158 Eq156
                  refine own_callV X158 hx (y := (⟨"com/example/kapu/kapu/service/Coverage$Part", "isCovered", "(Z)Z"⟩ : MethodName)) (z := (⟨"com/example/kapu/kapu/service/Coverage$Part", "isCovered", "(Z)Z"⟩ : MethodName)) hown (mvT hZ (hw _ (List.mem_of_getElem? (i := 41) rfl))) (mvT hZ (hw _ (List.mem_of_getElem? (i := 42) rfl))) (notFace_of_selects (args := #[]) (mvT hZ (hw _ (List.mem_of_getElem? (i := 44) rfl)))) (mvT hZ (hw _ (List.mem_of_getElem? (i := 44) rfl))) (mvT hZ (hw _ (List.mem_of_getElem? (i := 43) rfl))) (by decide) (backOf (W := 0) (rmV0 l Z a0 hw [] nb4 (0 : Int32) T156.heap n0 (Nat.le_trans Z0 K156.1) Fq156_3 rfl) hZ (hw _ (List.mem_of_getElem? (i := 45) rfl)) (hw _ (List.mem_of_getElem? (i := 3) rfl)) (by decide) (by decide)) q161a q161c (g := (mkF m 228 #[.val (.int ops), .val (.int c0), .val (.int c1), .val (.int flags), .val (.ref nb1), .val (.ref nb4), .val (.int (3 : Int32)), .val (.int (1 : Int32)), .val (.int (1 : Int32)), .val (.int (1 : Int32)), .val (.int (1 : Int32)), .val (.int (0 : Int32)), .val (.int (1 : Int32)), .unset, .unset] [(.int (0 : Int32)), (.ref nb4)])) rfl (by rw [hml]; rfl) (argsL := [(.int (0 : Int32))]) (rest := []) (lenOf pd_2 rfl) rfl (by show 2 * 0 + _ ≤ _; exact Nat.le_of_eq rfl) (hb hby at_228) rfl hh158 (by decide) (by decide) ?_
                  rintro v160 T160 L160 X160 ⟨rfl, Nq160, hh160⟩
                  have N160 := Fr.app N158 Nq160
                  show own_Go p e below _ T160 (mkF m 231 #[.val (.int ops), .val (.int c0), .val (.int c1), .val (.int flags), .val (.ref nb1), .val (.ref nb4), .val (.int (3 : Int32)), .val (.int (1 : Int32)), .val (.int (1 : Int32)), .val (.int (1 : Int32)), .val (.int (1 : Int32)), .val (.int (0 : Int32)), .val (.int (1 : Int32)), .unset, .unset] [(.int (0 : Int32))])
                  refine own_st (fun t_ k_ => XS.istore X160.here hx rfl (hb hby at_231) rfl (l' := #[.val (.int ops), .val (.int c0), .val (.int c1), .val (.int flags), .val (.ref nb1), .val (.ref nb4), .val (.int (3 : Int32)), .val (.int (1 : Int32)), .val (.int (1 : Int32)), .val (.int (1 : Int32)), .val (.int (1 : Int32)), .val (.int (0 : Int32)), .val (.int (1 : Int32)), .val (.int (0 : Int32)), .unset]) rfl k_) ?_
                  show own_Go p e below _ T160 (mkF m 233 #[.val (.int ops), .val (.int c0), .val (.int c1), .val (.int flags), .val (.ref nb1), .val (.ref nb4), .val (.int (3 : Int32)), .val (.int (1 : Int32)), .val (.int (1 : Int32)), .val (.int (1 : Int32)), .val (.int (1 : Int32)), .val (.int (0 : Int32)), .val (.int (1 : Int32)), .val (.int (0 : Int32)), .unset] [])
                  refine own_st (fun t_ k_ => XS.aload X160.here hx rfl (hb hby at_233) rfl rfl k_) ?_
                  show own_Go p e below _ T160 (mkF m 235 #[.val (.int ops), .val (.int c0), .val (.int c1), .val (.int flags), .val (.ref nb1), .val (.ref nb4), .val (.int (3 : Int32)), .val (.int (1 : Int32)), .val (.int (1 : Int32)), .val (.int (1 : Int32)), .val (.int (1 : Int32)), .val (.int (0 : Int32)), .val (.int (1 : Int32)), .val (.int (0 : Int32)), .unset] [(.ref nb4)])
                  refine own_st (fun t_ k_ => XS.iconst X160.here hx rfl (hb hby at_235) k_) ?_
                  show own_Go p e below _ T160 (mkF m 236 #[.val (.int ops), .val (.int c0), .val (.int c1), .val (.int flags), .val (.ref nb1), .val (.ref nb4), .val (.int (3 : Int32)), .val (.int (1 : Int32)), .val (.int (1 : Int32)), .val (.int (1 : Int32)), .val (.int (1 : Int32)), .val (.int (0 : Int32)), .val (.int (1 : Int32)), .val (.int (0 : Int32)), .unset] [(.int (1 : Int32)), (.ref nb4)])
                  obtain ⟨cq163, kq163, q163a, q163b, q163c⟩ := isOf hZ hh160 Eq156
                  refine own_callV X160 hx (y := (⟨"com/example/kapu/kapu/service/Coverage$Part", "isCovered", "(Z)Z"⟩ : MethodName)) (z := (⟨"com/example/kapu/kapu/service/Coverage$Part", "isCovered", "(Z)Z"⟩ : MethodName)) hown (mvT hZ (hw _ (List.mem_of_getElem? (i := 41) rfl))) (mvT hZ (hw _ (List.mem_of_getElem? (i := 42) rfl))) (notFace_of_selects (args := #[]) (mvT hZ (hw _ (List.mem_of_getElem? (i := 44) rfl)))) (mvT hZ (hw _ (List.mem_of_getElem? (i := 44) rfl))) (mvT hZ (hw _ (List.mem_of_getElem? (i := 43) rfl))) (by decide) (backOf (W := 0) (rmV1 l Z a0 hw [] nb4 (1 : Int32) T156.heap n0 (Nat.le_trans Z0 K156.1) Fq156_2 rfl) hZ (hw _ (List.mem_of_getElem? (i := 45) rfl)) (hw _ (List.mem_of_getElem? (i := 3) rfl)) (by decide) (by decide)) q163a q163c (g := (mkF m 236 #[.val (.int ops), .val (.int c0), .val (.int c1), .val (.int flags), .val (.ref nb1), .val (.ref nb4), .val (.int (3 : Int32)), .val (.int (1 : Int32)), .val (.int (1 : Int32)), .val (.int (1 : Int32)), .val (.int (1 : Int32)), .val (.int (0 : Int32)), .val (.int (1 : Int32)), .val (.int (0 : Int32)), .unset] [(.int (1 : Int32)), (.ref nb4)])) rfl (by rw [hml]; rfl) (argsL := [(.int (1 : Int32))]) (rest := []) (lenOf pd_2 rfl) rfl (by show 2 * 0 + _ ≤ _; exact Nat.le_of_eq rfl) (hb hby at_236) rfl hh160 (by decide) (by decide) ?_
                  rintro v162 T162 L162 X162 ⟨rfl, Nq162, hh162⟩
                  have N162 := Fr.app N160 Nq162
                  show own_Go p e below _ T162 (mkF m 239 #[.val (.int ops), .val (.int c0), .val (.int c1), .val (.int flags), .val (.ref nb1), .val (.ref nb4), .val (.int (3 : Int32)), .val (.int (1 : Int32)), .val (.int (1 : Int32)), .val (.int (1 : Int32)), .val (.int (1 : Int32)), .val (.int (0 : Int32)), .val (.int (1 : Int32)), .val (.int (0 : Int32)), .unset] [(.int (1 : Int32))])
                  refine own_st (fun t_ k_ => XS.istore X162.here hx rfl (hb hby at_239) rfl (l' := #[.val (.int ops), .val (.int c0), .val (.int c1), .val (.int flags), .val (.ref nb1), .val (.ref nb4), .val (.int (3 : Int32)), .val (.int (1 : Int32)), .val (.int (1 : Int32)), .val (.int (1 : Int32)), .val (.int (1 : Int32)), .val (.int (0 : Int32)), .val (.int (1 : Int32)), .val (.int (0 : Int32)), .val (.int (1 : Int32))]) rfl k_) ?_
                  show own_Go p e below _ T162 (mkF m 241 #[.val (.int ops), .val (.int c0), .val (.int c1), .val (.int flags), .val (.ref nb1), .val (.ref nb4), .val (.int (3 : Int32)), .val (.int (1 : Int32)), .val (.int (1 : Int32)), .val (.int (1 : Int32)), .val (.int (1 : Int32)), .val (.int (0 : Int32)), .val (.int (1 : Int32)), .val (.int (0 : Int32)), .val (.int (1 : Int32))] [])
                  refine own_st (fun t_ k_ => XS.iload X162.here hx rfl (hb hby at_241) rfl k_) ?_
                  show own_Go p e below _ T162 (mkF m 243 #[.val (.int ops), .val (.int c0), .val (.int c1), .val (.int flags), .val (.ref nb1), .val (.ref nb4), .val (.int (3 : Int32)), .val (.int (1 : Int32)), .val (.int (1 : Int32)), .val (.int (1 : Int32)), .val (.int (1 : Int32)), .val (.int (0 : Int32)), .val (.int (1 : Int32)), .val (.int (0 : Int32)), .val (.int (1 : Int32))] [(.int (1 : Int32))])
                  refine own_st (fun t_ k_ => XS.iload X162.here hx rfl (hb hby at_243) rfl k_) ?_
                  show own_Go p e below _ T162 (mkF m 245 #[.val (.int ops), .val (.int c0), .val (.int c1), .val (.int flags), .val (.ref nb1), .val (.ref nb4), .val (.int (3 : Int32)), .val (.int (1 : Int32)), .val (.int (1 : Int32)), .val (.int (1 : Int32)), .val (.int (1 : Int32)), .val (.int (0 : Int32)), .val (.int (1 : Int32)), .val (.int (0 : Int32)), .val (.int (1 : Int32))] [(.int (1 : Int32)), (.int (1 : Int32))])
                  refine own_st (fun t_ k_ => XS.icmpNo X162.here hx rfl (hb hby at_245) rfl (by decide) k_) ?_
                  show own_Go p e below _ T162 (mkF m 248 #[.val (.int ops), .val (.int c0), .val (.int c1), .val (.int flags), .val (.ref nb1), .val (.ref nb4), .val (.int (3 : Int32)), .val (.int (1 : Int32)), .val (.int (1 : Int32)), .val (.int (1 : Int32)), .val (.int (1 : Int32)), .val (.int (0 : Int32)), .val (.int (1 : Int32)), .val (.int (0 : Int32)), .val (.int (1 : Int32))] [])
                  refine own_st (fun t_ k_ => XS.iload X162.here hx rfl (hb hby at_248) rfl k_) ?_
                  show own_Go p e below _ T162 (mkF m 250 #[.val (.int ops), .val (.int c0), .val (.int c1), .val (.int flags), .val (.ref nb1), .val (.ref nb4), .val (.int (3 : Int32)), .val (.int (1 : Int32)), .val (.int (1 : Int32)), .val (.int (1 : Int32)), .val (.int (1 : Int32)), .val (.int (0 : Int32)), .val (.int (1 : Int32)), .val (.int (0 : Int32)), .val (.int (1 : Int32))] [(.int (0 : Int32))])
                  refine own_st (fun t_ k_ => XS.iload X162.here hx rfl (hb hby at_250) rfl k_) ?_
                  show own_Go p e below _ T162 (mkF m 252 #[.val (.int ops), .val (.int c0), .val (.int c1), .val (.int flags), .val (.ref nb1), .val (.ref nb4), .val (.int (3 : Int32)), .val (.int (1 : Int32)), .val (.int (1 : Int32)), .val (.int (1 : Int32)), .val (.int (1 : Int32)), .val (.int (0 : Int32)), .val (.int (1 : Int32)), .val (.int (0 : Int32)), .val (.int (1 : Int32))] [(.int (0 : Int32)), (.int (0 : Int32))])
                  refine own_st (fun t_ k_ => XS.icmpNo X162.here hx rfl (hb hby at_252) rfl (by decide) k_) ?_
                  show own_Go p e below _ T162 (mkF m 255 #[.val (.int ops), .val (.int c0), .val (.int c1), .val (.int flags), .val (.ref nb1), .val (.ref nb4), .val (.int (3 : Int32)), .val (.int (1 : Int32)), .val (.int (1 : Int32)), .val (.int (1 : Int32)), .val (.int (1 : Int32)), .val (.int (0 : Int32)), .val (.int (1 : Int32)), .val (.int (0 : Int32)), .val (.int (1 : Int32))] [])
                  refine own_st (fun t_ k_ => XS.iload X162.here hx rfl (hb hby at_255) rfl k_) ?_
                  show own_Go p e below _ T162 (mkF m 257 #[.val (.int ops), .val (.int c0), .val (.int c1), .val (.int flags), .val (.ref nb1), .val (.ref nb4), .val (.int (3 : Int32)), .val (.int (1 : Int32)), .val (.int (1 : Int32)), .val (.int (1 : Int32)), .val (.int (1 : Int32)), .val (.int (0 : Int32)), .val (.int (1 : Int32)), .val (.int (0 : Int32)), .val (.int (1 : Int32))] [(.int (1 : Int32))])
                  refine own_st (fun t_ k_ => XS.iload X162.here hx rfl (hb hby at_257) rfl k_) ?_
                  show own_Go p e below _ T162 (mkF m 259 #[.val (.int ops), .val (.int c0), .val (.int c1), .val (.int flags), .val (.ref nb1), .val (.ref nb4), .val (.int (3 : Int32)), .val (.int (1 : Int32)), .val (.int (1 : Int32)), .val (.int (1 : Int32)), .val (.int (1 : Int32)), .val (.int (0 : Int32)), .val (.int (1 : Int32)), .val (.int (0 : Int32)), .val (.int (1 : Int32))] [(.int (1 : Int32)), (.int (1 : Int32))])
                  refine own_st (fun t_ k_ => XS.icmpNo X162.here hx rfl (hb hby at_259) rfl (by decide) k_) ?_
                  show own_Go p e below _ T162 (mkF m 262 #[.val (.int ops), .val (.int c0), .val (.int c1), .val (.int flags), .val (.ref nb1), .val (.ref nb4), .val (.int (3 : Int32)), .val (.int (1 : Int32)), .val (.int (1 : Int32)), .val (.int (1 : Int32)), .val (.int (1 : Int32)), .val (.int (0 : Int32)), .val (.int (1 : Int32)), .val (.int (0 : Int32)), .val (.int (1 : Int32))] [])
                  refine own_st (fun t_ k_ => XS.iconst X162.here hx rfl (hb hby at_262) k_) ?_
                  show own_Go p e below _ T162 (mkF m 263 #[.val (.int ops), .val (.int c0), .val (.int c1), .val (.int flags), .val (.ref nb1), .val (.ref nb4), .val (.int (3 : Int32)), .val (.int (1 : Int32)), .val (.int (1 : Int32)), .val (.int (1 : Int32)), .val (.int (1 : Int32)), .val (.int (0 : Int32)), .val (.int (1 : Int32)), .val (.int (0 : Int32)), .val (.int (1 : Int32))] [(.int (1 : Int32))])
                  refine own_st (fun t_ k_ => XS.goto X162.here hx rfl (pc0 := 263) (pc' := 267) rfl (hb hby at_263) (by decide) (by decide) k_) ?_
                  show own_Go p e below _ T162 (mkF m 267 #[.val (.int ops), .val (.int c0), .val (.int c1), .val (.int flags), .val (.ref nb1), .val (.ref nb4), .val (.int (3 : Int32)), .val (.int (1 : Int32)), .val (.int (1 : Int32)), .val (.int (1 : Int32)), .val (.int (1 : Int32)), .val (.int (0 : Int32)), .val (.int (1 : Int32)), .val (.int (0 : Int32)), .val (.int (1 : Int32))] [(.int (1 : Int32))])
                  refine own_retN X162 hx hlk (t := .boolean) Bd.returns (by simp) (hb hby at_267) ?_ (by decide) (by decide)
                  show Q0 n0 _ T162.heap _
                  rw [hh162]
                  exact ⟨rfl, N162⟩
        · show own_Go p e below _ T26 (mkF m 88 #[.val (.int ops), .val (.int c0), .val (.int c1), .val (.int flags), .val (.ref nb1), .val (.ref nb4), .val (.int nn), .val (.int b0), .val (.int b1), .unset, .unset, .unset, .unset, .unset, .unset] [(.int (ops &&& (16 : Int32)))])
          by_cases hc88_29 : (ops &&& (16 : Int32)) = (0 : Int32)
          · refine own_st (fun t_ k_ => XS.ifYes X26.here hx rfl (pc0 := 88) (pc' := 95) rfl (hb hby at_88) rfl ((if0 _ _).trans (teq hc88_29).1) (by decide) (by decide) k_) ?_
            show own_Go p e below _ T26 (mkF m 95 #[.val (.int ops), .val (.int c0), .val (.int c1), .val (.int flags), .val (.ref nb1), .val (.ref nb4), .val (.int nn), .val (.int b0), .val (.int b1), .unset, .unset, .unset, .unset, .unset, .unset] [])
            refine own_st (fun t_ k_ => XS.iconst X26.here hx rfl (hb hby at_95) k_) ?_
            show own_Go p e below _ T26 (mkF m 96 #[.val (.int ops), .val (.int c0), .val (.int c1), .val (.int flags), .val (.ref nb1), .val (.ref nb4), .val (.int nn), .val (.int b0), .val (.int b1), .unset, .unset, .unset, .unset, .unset, .unset] [(.int (0 : Int32))])
            exact J_b2 (0 : Int32) (Or.inl rfl)
          · refine own_st (fun t_ k_ => XS.ifNo X26.here hx rfl (hb hby at_88) rfl ((if0 _ _).trans (feq hc88_29).1) k_) ?_
            show own_Go p e below _ T26 (mkF m 91 #[.val (.int ops), .val (.int c0), .val (.int c1), .val (.int flags), .val (.ref nb1), .val (.ref nb4), .val (.int nn), .val (.int b0), .val (.int b1), .unset, .unset, .unset, .unset, .unset, .unset] [])
            refine own_st (fun t_ k_ => XS.iconst X26.here hx rfl (hb hby at_91) k_) ?_
            show own_Go p e below _ T26 (mkF m 92 #[.val (.int ops), .val (.int c0), .val (.int c1), .val (.int flags), .val (.ref nb1), .val (.ref nb4), .val (.int nn), .val (.int b0), .val (.int b1), .unset, .unset, .unset, .unset, .unset, .unset] [(.int (1 : Int32))])
            refine own_st (fun t_ k_ => XS.goto X26.here hx rfl (pc0 := 92) (pc' := 96) rfl (hb hby at_92) (by decide) (by decide) k_) ?_
            show own_Go p e below _ T26 (mkF m 96 #[.val (.int ops), .val (.int c0), .val (.int c1), .val (.int flags), .val (.ref nb1), .val (.ref nb4), .val (.int nn), .val (.int b0), .val (.int b1), .unset, .unset, .unset, .unset, .unset, .unset] [(.int (1 : Int32))])
            exact J_b2 (1 : Int32) (Or.inr rfl)
      · show own_Go p e below _ T26 (mkF m 74 #[.val (.int ops), .val (.int c0), .val (.int c1), .val (.int flags), .val (.ref nb1), .val (.ref nb4), .val (.int nn), .val (.int b0), .unset, .unset, .unset, .unset, .unset, .unset, .unset] [(.int (ops &&& (8 : Int32)))])
        by_cases hc74_28 : (ops &&& (8 : Int32)) = (0 : Int32)
        · refine own_st (fun t_ k_ => XS.ifYes X26.here hx rfl (pc0 := 74) (pc' := 81) rfl (hb hby at_74) rfl ((if0 _ _).trans (teq hc74_28).1) (by decide) (by decide) k_) ?_
          show own_Go p e below _ T26 (mkF m 81 #[.val (.int ops), .val (.int c0), .val (.int c1), .val (.int flags), .val (.ref nb1), .val (.ref nb4), .val (.int nn), .val (.int b0), .unset, .unset, .unset, .unset, .unset, .unset, .unset] [])
          refine own_st (fun t_ k_ => XS.iconst X26.here hx rfl (hb hby at_81) k_) ?_
          show own_Go p e below _ T26 (mkF m 82 #[.val (.int ops), .val (.int c0), .val (.int c1), .val (.int flags), .val (.ref nb1), .val (.ref nb4), .val (.int nn), .val (.int b0), .unset, .unset, .unset, .unset, .unset, .unset, .unset] [(.int (0 : Int32))])
          exact J_b1 (0 : Int32) (Or.inl rfl)
        · refine own_st (fun t_ k_ => XS.ifNo X26.here hx rfl (hb hby at_74) rfl ((if0 _ _).trans (feq hc74_28).1) k_) ?_
          show own_Go p e below _ T26 (mkF m 77 #[.val (.int ops), .val (.int c0), .val (.int c1), .val (.int flags), .val (.ref nb1), .val (.ref nb4), .val (.int nn), .val (.int b0), .unset, .unset, .unset, .unset, .unset, .unset, .unset] [])
          refine own_st (fun t_ k_ => XS.iconst X26.here hx rfl (hb hby at_77) k_) ?_
          show own_Go p e below _ T26 (mkF m 78 #[.val (.int ops), .val (.int c0), .val (.int c1), .val (.int flags), .val (.ref nb1), .val (.ref nb4), .val (.int nn), .val (.int b0), .unset, .unset, .unset, .unset, .unset, .unset, .unset] [(.int (1 : Int32))])
          refine own_st (fun t_ k_ => XS.goto X26.here hx rfl (pc0 := 78) (pc' := 82) rfl (hb hby at_78) (by decide) (by decide) k_) ?_
          show own_Go p e below _ T26 (mkF m 82 #[.val (.int ops), .val (.int c0), .val (.int c1), .val (.int flags), .val (.ref nb1), .val (.ref nb4), .val (.int nn), .val (.int b0), .unset, .unset, .unset, .unset, .unset, .unset, .unset] [(.int (1 : Int32))])
          exact J_b1 (1 : Int32) (Or.inr rfl)
    · show own_Go p e below _ T26 (mkF m 60 #[.val (.int ops), .val (.int c0), .val (.int c1), .val (.int flags), .val (.ref nb1), .val (.ref nb4), .val (.int nn), .unset, .unset, .unset, .unset, .unset, .unset, .unset, .unset] [(.int (ops &&& (4 : Int32)))])
      by_cases hc60_27 : (ops &&& (4 : Int32)) = (0 : Int32)
      · refine own_st (fun t_ k_ => XS.ifYes X26.here hx rfl (pc0 := 60) (pc' := 67) rfl (hb hby at_60) rfl ((if0 _ _).trans (teq hc60_27).1) (by decide) (by decide) k_) ?_
        show own_Go p e below _ T26 (mkF m 67 #[.val (.int ops), .val (.int c0), .val (.int c1), .val (.int flags), .val (.ref nb1), .val (.ref nb4), .val (.int nn), .unset, .unset, .unset, .unset, .unset, .unset, .unset, .unset] [])
        refine own_st (fun t_ k_ => XS.iconst X26.here hx rfl (hb hby at_67) k_) ?_
        show own_Go p e below _ T26 (mkF m 68 #[.val (.int ops), .val (.int c0), .val (.int c1), .val (.int flags), .val (.ref nb1), .val (.ref nb4), .val (.int nn), .unset, .unset, .unset, .unset, .unset, .unset, .unset, .unset] [(.int (0 : Int32))])
        exact J_b0 (0 : Int32) (Or.inl rfl)
      · refine own_st (fun t_ k_ => XS.ifNo X26.here hx rfl (hb hby at_60) rfl ((if0 _ _).trans (feq hc60_27).1) k_) ?_
        show own_Go p e below _ T26 (mkF m 63 #[.val (.int ops), .val (.int c0), .val (.int c1), .val (.int flags), .val (.ref nb1), .val (.ref nb4), .val (.int nn), .unset, .unset, .unset, .unset, .unset, .unset, .unset, .unset] [])
        refine own_st (fun t_ k_ => XS.iconst X26.here hx rfl (hb hby at_63) k_) ?_
        show own_Go p e below _ T26 (mkF m 64 #[.val (.int ops), .val (.int c0), .val (.int c1), .val (.int flags), .val (.ref nb1), .val (.ref nb4), .val (.int nn), .unset, .unset, .unset, .unset, .unset, .unset, .unset, .unset] [(.int (1 : Int32))])
        refine own_st (fun t_ k_ => XS.goto X26.here hx rfl (pc0 := 64) (pc' := 68) rfl (hb hby at_64) (by decide) (by decide) k_) ?_
        show own_Go p e below _ T26 (mkF m 68 #[.val (.int ops), .val (.int c0), .val (.int c1), .val (.int flags), .val (.ref nb1), .val (.ref nb4), .val (.int nn), .unset, .unset, .unset, .unset, .unset, .unset, .unset, .unset] [(.int (1 : Int32))])
        exact J_b0 (1 : Int32) (Or.inr rfl)
  · show own_Go p e below _ T6 (mkF m 39 #[.val (.int ops), .val (.int c0), .val (.int c1), .val (.int flags), .val (.ref nb1), .unset, .unset, .unset, .unset, .unset, .unset, .unset, .unset, .unset, .unset] [(.int (flags &&& (1 : Int32))), (.ref nb5), (.ref nb4), (.ref nb4)])
    by_cases hc39_14 : (flags &&& (1 : Int32)) = (0 : Int32)
    · refine own_st (fun t_ k_ => XS.ifYes X6.here hx rfl (pc0 := 39) (pc' := 46) rfl (hb hby at_39) rfl ((if0 _ _).trans (teq hc39_14).1) (by decide) (by decide) k_) ?_
      show own_Go p e below _ T6 (mkF m 46 #[.val (.int ops), .val (.int c0), .val (.int c1), .val (.int flags), .val (.ref nb1), .unset, .unset, .unset, .unset, .unset, .unset, .unset, .unset, .unset, .unset] [(.ref nb5), (.ref nb4), (.ref nb4)])
      refine own_st (fun t_ k_ => XS.iconst X6.here hx rfl (hb hby at_46) k_) ?_
      show own_Go p e below _ T6 (mkF m 47 #[.val (.int ops), .val (.int c0), .val (.int c1), .val (.int flags), .val (.ref nb1), .unset, .unset, .unset, .unset, .unset, .unset, .unset, .unset, .unset, .unset] [(.int (0 : Int32)), (.ref nb5), (.ref nb4), (.ref nb4)])
      exact J_bz (0 : Int32) (Or.inl rfl)
    · refine own_st (fun t_ k_ => XS.ifNo X6.here hx rfl (hb hby at_39) rfl ((if0 _ _).trans (feq hc39_14).1) k_) ?_
      show own_Go p e below _ T6 (mkF m 42 #[.val (.int ops), .val (.int c0), .val (.int c1), .val (.int flags), .val (.ref nb1), .unset, .unset, .unset, .unset, .unset, .unset, .unset, .unset, .unset, .unset] [(.ref nb5), (.ref nb4), (.ref nb4)])
      refine own_st (fun t_ k_ => XS.iconst X6.here hx rfl (hb hby at_42) k_) ?_
      show own_Go p e below _ T6 (mkF m 43 #[.val (.int ops), .val (.int c0), .val (.int c1), .val (.int flags), .val (.ref nb1), .unset, .unset, .unset, .unset, .unset, .unset, .unset, .unset, .unset, .unset] [(.int (1 : Int32)), (.ref nb5), (.ref nb4), (.ref nb4)])
      refine own_st (fun t_ k_ => XS.goto X6.here hx rfl (pc0 := 43) (pc' := 47) rfl (hb hby at_43) (by decide) (by decide) k_) ?_
      show own_Go p e below _ T6 (mkF m 47 #[.val (.int ops), .val (.int c0), .val (.int c1), .val (.int flags), .val (.ref nb1), .unset, .unset, .unset, .unset, .unset, .unset, .unset, .unset, .unset, .unset] [(.int (1 : Int32)), (.ref nb5), (.ref nb4), (.ref nb4)])
      exact J_bz (1 : Int32) (Or.inr rfl)
set_option maxRecDepth 65536 in
set_option maxHeartbeats 40000000 in
theorem comes_1 {Post : Tables → Env → Array Value → State → Outcome → State → Prop} (hpost : ∀ tb e args s v u, (limb_1_1.after args s (.returned v) u = true ∧ limb_1_2.after args s (.returned v) u = true ∧ True) → FrameEnd s (.returned v) u (Jvm.fieldLocs frame_1_writes args s ++ Jvm.arrayLocs frame_1_arrays args s ++ Jvm.staticLocs frame_1_statics s) 16 128 → Post tb e args s (.returned v) u) :
    ArmFor flags0 classFile x code maxLocals ret World_1 tables_1 room_1 Calls_1 rest_1 Pre_1 Post := by
  intro l hfl _ _ p e ha hc hk s m args below hf hA hF happ hP
  obtain ⟨hcalls, hrest, hpre⟩ := hP
  obtain ⟨-, -, -, hnamed, -, -, -, hat⟩ := (Spec.applies_iff hf).mp happ
  obtain ⟨hg, hn⟩ := and_e (Cond.before_iff.mp (show (Jvm.Cond.and given_1 narrow_1).before args s = true from hpre))
  obtain ⟨g0, hg0⟩ := and_e hg
  obtain ⟨g1, hg1⟩ := and_e hg0
  obtain ⟨g2, hg2⟩ := and_e hg1
  obtain ⟨g3, hg3⟩ := and_e hg2
  obtain ⟨w0, w1, w2, w3, rfl⟩ : ∃ w0 w1 w2 w3 : Value, args = #[w0, w1, w2, w3] := by
    have hs : args.size = 4 := by simpa [Cond.value, given_1] using g0
    obtain ⟨L⟩ := args
    match L, hs with
    | [w0, w1, w2, w3], _ => exact ⟨w0, w1, w2, w3, rfl⟩
  have hw := fun d (hd : d ∈ tables_1) => atoms_spec (ws := Jvm.Cond.code x code maxLocals ret :: tables_1) hat d (List.mem_cons_of_mem _ hd)
  have hfit : Fit s := fun {y c} hc i hi => by
    obtain ⟨ha, rfl⟩ := Array.getElem?_eq_some_iff.mp hc
    have q := List.all_eq_true.mp ((Array.all_eq_true_iff_forall_mem.mp hF) _ (Array.getElem_mem ha)) i (List.mem_range.mpr hi)
    simpa [Array.getElem?_eq_getElem hi] using q
  obtain ⟨hsets, hown0⟩ := atoms_of _ (rest_1_c_eq ▸ (show rest_1_c.before _ s = true from hrest))
  obtain ⟨i0, ei0⟩ := is_v g1
  obtain rfl : w0 = (.int i0) := Option.some.inj ei0
  obtain ⟨i1, ei1⟩ := is_v g2
  obtain rfl : w1 = (.int i1) := Option.some.inj ei1
  obtain ⟨i2, ei2⟩ := is_v g3
  obtain rfl : w2 = (.int i2) := Option.some.inj ei2
  obtain ⟨i3, ei3⟩ := is_v hg3
  obtain rfl : w3 = (.int i3) := Option.some.inj ei3
  have n5 := not_v (Cond.before_iff.mp (hsets _ (List.mem_of_getElem? (i := 2) rfl)))
  obtain ⟨cs11, e10⟩ := is_v (Cond.before_iff.mp (hsets _ (List.mem_of_getElem? (i := 1) rfl)))
  have S12 : Sta s s.heap "java/lang/String" "COMPACT_STRINGS" "Z" (.int cs11) := Sta.start e10 (Or.inl (hsets _ (List.mem_of_getElem? (i := 0) rfl)))
  have c17 : ¬ (cs11 = (0 : Int32)) := gotF (Cond.eq_ints e10 (Term.int_eval (0))) n5
  obtain ⟨n, o, h1, h2, h3, _, L, rfl, ⟨rfl, N⟩, hq⟩ := rm0 l s _ hw tables_1 i0 i1 i2 i3 cs11 s.heap s.heap.size (Nat.le_refl _) S12 c17 (Old.start s) p e ha hc hk s m _ below hf ((Spec.applies_iff_loose hf).mp happ).1 ⟨rfl, State.Warmed39.refl s, rfl⟩ trivial
  refine ⟨n, _, h1, h2, h3, hpost _ _ _ _ _ _ ⟨Cond.after_iff.mpr rfl, Cond.after_iff.mpr (eq_i res_at (Term.int_eval (1)) rfl), trivial⟩ ⟨hq.1, hq.2.1, (hq.2.2.sift fun y hy => Or.inr (N y hy)).mono (by decide) (by decide)⟩⟩
theorem main_1_1 : Claimed_1_1 := comes_1 fun _ _ _ _ _ _ h hF => ⟨h.1, hF⟩
theorem main_1_2 : Claimed_1_2 := comes_1 fun _ _ _ _ _ _ h hF => ⟨h.2.1, hF⟩
end Jvm.Pilot.@@N@@
namespace Jvm.Pilot.@@N@@
open Jvm Jvm.ClassFile Sem Op Lib Jvm.Free Jvm.Stand Jvm.Pilot.@@N@@.Jvm.D
/-! MADE BY PROGRAM (witnessworld.py) out of the Statement's table words and the real class files: 20 classes; the members and pool entries that the words name. The judged class is class 1, her method 1. -/
namespace start1
open Jvm.ClassFile
def u (s : String) : CpInfo := .utf8 (stringToUtf16 s)
/-- a pool by its gaps: so many unusable entries, then the entry; so many at the end -/
def gap : Nat → List CpInfo → List CpInfo
  | 0, r => r
  | n + 1, r => .unusable :: gap n r
def poolList (es : List (Nat × CpInfo)) (last : Nat) : List CpInfo := es.foldr (fun e r => gap e.1 (e.2 :: r)) (gap last [])
def pool (es : List (Nat × CpInfo)) (last : Nat) : Array CpInfo := ⟨poolList es last⟩
def fileOf (pool : Array CpInfo) (this : Nat) (attrs : Array Attribute := #[]) (ms : Array MethodInfo := #[]) (fl : Nat := 33) (sup : Nat := 0) (ifs : Array Nat := #[]) (fds : Array FieldInfo := #[]) : ClassFile where
  minorVersion := 0
  majorVersion := 65
  constantPool := pool
  accessFlags := fl
  thisClass := this
  superClass := sup
  interfaces := ifs
  fields := fds
  methods := ms
  attributes := attrs
def plain (name : String) (sup : Option ClassId) : Class where
  name := name
  kind := .ordinary
  loader := none
  accessFlags := 33
  super := sup
  interfaces := #[]
  cf := none
  fields := #[]
  methods := #[]
  instanceTypes := #[]
  staticTypes := #[]
  resolved := #[]
  callSites := []
  init := .initialized
  statics := none
  mirror := none

def pool0 : Array CpInfo := pool [(5, u "<init>"), (0, u "()V"), (1, .class_ 10), (1, u "java/lang/Object")] 113

def k0c0 : Code := { maxStack := 0, maxLocals := 1, code := object_method_1_code, exceptionTable := #[], attributes := #[] }
def k0m0 : Method := { name := "<init>", desc := "()V", sig := { parameters := [], returnType := none }, accessFlags := 1, code := some k0c0 }
/-- java/lang/Object -/
def k0 : Class := { plain "java/lang/Object" none with
  accessFlags := 33
  interfaces := #[]
  cf := some (fileOf pool0 8 #[] #[{ accessFlags := 1, nameIndex := 5, descriptorIndex := 6, attributes := #[] }] 33 0 #[] #[])
  fields := #[]
  methods := #[k0m0]
  instanceTypes := #[]
  staticTypes := #[]
  resolved := Array.replicate 124 none
  statics := none }

def pool1 : Array CpInfo := pool [(2, .class_ 4), (1, u "java/lang/Object"), (0, u "<init>"), (0, u "()V"), (0, .class_ 8), (0, u "com/example/kapu/kapu/service/Coverage$Part"), (0, .class_ 10), (0, u "java/lang/String"), (0, .methodref 9 12), (0, .nameAndType 5 13), (0, u "([C)V"), (0, .methodref 7 15), (0, .nameAndType 5 16), (0, u "(Ljava/lang/String;Z)V"), (0, .methodref 7 18), (0, .nameAndType 19 20), (0, u "cover"), (0, u "(Z)V"), (0, .methodref 7 22), (0, .nameAndType 23 24), (0, u "isCovered"), (0, u "(Z)Z"), (0, .class_ 26), (0, u "com/example/kapu/kapu/service/PartIsCoveredPinLaw"), (2, u "law"), (0, u "(IIII)Z")] 9

def k1m0 : Method := { name := "<init>", desc := "()V", sig := { parameters := [], returnType := none }, accessFlags := 1, code := none }
def k1c1 : Code := { maxStack := 5, maxLocals := 15, code := code, exceptionTable := #[], attributes := #[] }
def k1m1 : Method := { name := "law", desc := "(IIII)Z", sig := { parameters := [.int, .int, .int, .int], returnType := some .boolean }, accessFlags := 9, code := some k1c1 }
/-- com/example/kapu/kapu/service/PartIsCoveredPinLaw -/
def k1 : Class := { plain "com/example/kapu/kapu/service/PartIsCoveredPinLaw" (some 0) with
  accessFlags := 49
  interfaces := #[]
  cf := some (fileOf pool1 25 #[] #[{ accessFlags := 1, nameIndex := 5, descriptorIndex := 6, attributes := #[] }, { accessFlags := 9, nameIndex := 29, descriptorIndex := 30, attributes := #[] }] 49 2 #[] #[])
  fields := #[]
  methods := #[k1m0, k1m1]
  instanceTypes := #[]
  staticTypes := #[]
  resolved := Array.replicate 40 none
  statics := none }

def pool2 : Array CpInfo := pool [(1, .methodref 2 3), (0, .class_ 4), (0, .nameAndType 5 6), (0, u "java/lang/Object"), (0, u "<init>"), (0, u "()V"), (0, .fieldref 8 9), (0, .class_ 10), (0, .nameAndType 11 12), (0, u "com/example/kapu/kapu/service/Coverage$Part"), (0, u "name"), (0, u "Ljava/lang/String;"), (0, .fieldref 8 14), (0, .nameAndType 15 16), (0, u "condition"), (0, u "Z"), (0, .fieldref 8 18), (0, .nameAndType 19 16), (0, u "coveredTrue"), (0, .fieldref 8 21), (0, .nameAndType 22 16), (0, u "coveredFalse"), (0, u "(Ljava/lang/String;Z)V"), (6, u "isCovered"), (0, u "(Z)Z"), (1, u "cover"), (0, u "(Z)V"), (3, .class_ 39), (0, u "com/example/kapu/kapu/service/Coverage")] 2

def k2c0 : Code := { maxStack := 2, maxLocals := 3, code := prog_96_method_1_code, exceptionTable := #[], attributes := #[] }
def k2m0 : Method := { name := "<init>", desc := "(Ljava/lang/String;Z)V", sig := { parameters := [(.object "java/lang/String"), .boolean], returnType := none }, accessFlags := 0, code := some k2c0 }
def k2c1 : Code := { maxStack := 1, maxLocals := 2, code := prog_96_method_4_code, exceptionTable := #[], attributes := #[] }
def k2m1 : Method := { name := "isCovered", desc := "(Z)Z", sig := { parameters := [.boolean], returnType := some .boolean }, accessFlags := 1, code := some k2c1 }
def k2c2 : Code := { maxStack := 2, maxLocals := 2, code := prog_96_method_5_code, exceptionTable := #[], attributes := #[] }
def k2m2 : Method := { name := "cover", desc := "(Z)V", sig := { parameters := [.boolean], returnType := none }, accessFlags := 0, code := some k2c2 }
/-- com/example/kapu/kapu/service/Coverage$Part -/
def k2 : Class := { plain "com/example/kapu/kapu/service/Coverage$Part" (some 0) with
  accessFlags := 49
  interfaces := #[]
  cf := some (fileOf pool2 8 #[.nestHost 38] #[{ accessFlags := 0, nameIndex := 5, descriptorIndex := 23, attributes := #[] }, { accessFlags := 1, nameIndex := 30, descriptorIndex := 31, attributes := #[] }, { accessFlags := 0, nameIndex := 33, descriptorIndex := 34, attributes := #[] }] 49 2 #[] #[{ accessFlags := 18, nameIndex := 11, descriptorIndex := 12, attributes := #[] }, { accessFlags := 18, nameIndex := 15, descriptorIndex := 16, attributes := #[] }, { accessFlags := 2, nameIndex := 19, descriptorIndex := 16, attributes := #[] }, { accessFlags := 2, nameIndex := 22, descriptorIndex := 16, attributes := #[] }])
  fields := #[{ name := "name", type := (.object "java/lang/String"), accessFlags := 18, slot := 0, constantValue := 0 }, { name := "condition", type := .boolean, accessFlags := 18, slot := 1, constantValue := 0 }, { name := "coveredTrue", type := .boolean, accessFlags := 2, slot := 2, constantValue := 0 }, { name := "coveredFalse", type := .boolean, accessFlags := 2, slot := 3, constantValue := 0 }]
  methods := #[k2m0, k2m1, k2m2]
  instanceTypes := #[(.object "java/lang/String"), .boolean, .boolean, .boolean]
  staticTypes := #[]
  resolved := Array.replicate 42 none
  statics := none }

def pool3 : Array CpInfo := pool [(1, .class_ 2), (0, u "java/io/Serializable"), (0, .class_ 4), (0, u "java/lang/Object")] 2

/-- java/io/Serializable -/
def k3 : Class := { plain "java/io/Serializable" (some 0) with
  accessFlags := 1537
  interfaces := #[]
  cf := some (fileOf pool3 1 #[] #[] 1537 3 #[] #[])
  fields := #[]
  methods := #[]
  instanceTypes := #[]
  staticTypes := #[]
  resolved := Array.replicate 7 none
  statics := none }

def pool4 : Array CpInfo := pool [(1, .class_ 2), (0, u "java/lang/Comparable"), (0, .class_ 4), (0, u "java/lang/Object")] 7

/-- java/lang/Comparable -/
def k4 : Class := { plain "java/lang/Comparable" (some 0) with
  accessFlags := 1537
  interfaces := #[]
  cf := some (fileOf pool4 1 #[] #[] 1537 3 #[] #[])
  fields := #[]
  methods := #[]
  instanceTypes := #[]
  staticTypes := #[]
  resolved := Array.replicate 12 none
  statics := none }

def pool5 : Array CpInfo := pool [(2, .class_ 4), (1, u "java/lang/CharSequence"), (42, .class_ 48), (0, u "java/lang/CharSequence$1CodePointIterator"), (10, .class_ 60), (0, u "java/lang/CharSequence$1CharIterator"), (5, .class_ 67), (0, u "java/lang/Object")] 63

/-- java/lang/CharSequence -/
def k5 : Class := { plain "java/lang/CharSequence" (some 0) with
  accessFlags := 1537
  interfaces := #[]
  cf := some (fileOf pool5 2 #[.nestMembers #[47, 59]] #[] 1537 66 #[] #[])
  fields := #[]
  methods := #[]
  instanceTypes := #[]
  staticTypes := #[]
  resolved := Array.replicate 131 none
  statics := none }

def pool6 : Array CpInfo := pool [(1, .class_ 2), (0, u "java/lang/constant/Constable"), (0, .class_ 4), (0, u "java/lang/Object")] 6

/-- java/lang/constant/Constable -/
def k6 : Class := { plain "java/lang/constant/Constable" (some 0) with
  accessFlags := 1537
  interfaces := #[]
  cf := some (fileOf pool6 1 #[] #[] 1537 3 #[] #[])
  fields := #[]
  methods := #[]
  instanceTypes := #[]
  staticTypes := #[]
  resolved := Array.replicate 11 none
  statics := none }

def pool7 : Array CpInfo := pool [(1, .class_ 2), (0, u "java/lang/constant/ConstantDesc"), (0, .class_ 4), (0, u "java/lang/Object")] 32

/-- java/lang/constant/ConstantDesc -/
def k7 : Class := { plain "java/lang/constant/ConstantDesc" (some 0) with
  accessFlags := 1537
  interfaces := #[]
  cf := some (fileOf pool7 1 #[] #[] 1537 3 #[] #[])
  fields := #[]
  methods := #[]
  instanceTypes := #[]
  staticTypes := #[]
  resolved := Array.replicate 37 none
  statics := none }

def pool8 : Array CpInfo := pool [(1, .methodref 2 3), (0, .class_ 4), (0, .nameAndType 5 6), (0, u "java/lang/Object"), (0, u "<init>"), (0, u "()V"), (2, .fieldref 10 11), (0, .class_ 12), (0, .nameAndType 13 14), (0, u "java/lang/String"), (0, u "value"), (0, u "[B"), (0, .fieldref 10 16), (0, .nameAndType 17 18), (0, u "coder"), (0, u "B"), (2, u "hash"), (0, u "I"), (2, u "hashIsZero"), (0, u "Z"), (0, .methodref 10 28), (0, .nameAndType 5 29), (0, u "([CIILjava/lang/Void;)V"), (8, .fieldref 10 39), (0, .nameAndType 40 26), (0, u "COMPACT_STRINGS"), (1, .class_ 44), (1, u "java/lang/StringUTF16"), (0, u "compress"), (1, .methodref 42 48), (0, .nameAndType 49 50), (0, u "coderFromArrayLen"), (0, u "([BI)B"), (126, .methodref 42 178), (0, .nameAndType 45 179), (0, u "([CII)[B"), (395, .class_ 576), (0, u "java/lang/CharSequence"), (22, u "CASE_INSENSITIVE_ORDER"), (0, u "Ljava/util/Comparator;"), (409, u "([C)V"), (90, u "serialPersistentFields"), (0, u "[Ljava/io/ObjectStreamField;"), (0, .class_ 1104), (0, u "java/lang/String$CaseInsensitiveComparator"), (1, .class_ 1107), (0, u "java/io/Serializable"), (0, .class_ 1109), (0, u "java/lang/Comparable"), (0, .class_ 1111), (0, u "java/lang/constant/Constable"), (0, .class_ 1113), (0, u "java/lang/constant/ConstantDesc"), (2, u "serialVersionUID"), (0, u "J"), (3, u "REPL"), (0, u "C"), (2, u "LATIN1"), (1, u "UTF16")] 323

def k8m0 : Method := { name := "<init>", desc := "()V", sig := { parameters := [], returnType := none }, accessFlags := 1, code := none }
def k8c1 : Code := { maxStack := 5, maxLocals := 2, code := jdk_42_method_3_code, exceptionTable := #[], attributes := #[] }
def k8m1 : Method := { name := "<init>", desc := "([C)V", sig := { parameters := [(.array .char)], returnType := none }, accessFlags := 1, code := some k8c1 }
def k8c2 : Code := { maxStack := 4, maxLocals := 6, code := jdk_42_method_149_code, exceptionTable := #[], attributes := #[] }
def k8m2 : Method := { name := "<init>", desc := "([CIILjava/lang/Void;)V", sig := { parameters := [(.array .char), .int, .int, (.object "java/lang/Void")], returnType := none }, accessFlags := 2, code := some k8c2 }
/-- java/lang/String -/
def k8 : Class := { plain "java/lang/String" (some 0) with
  accessFlags := 49
  interfaces := #[3, 4, 5, 6, 7]
  cf := some (fileOf pool8 10 #[.nestMembers #[1103]] #[{ accessFlags := 1, nameIndex := 5, descriptorIndex := 6, attributes := #[] }, { accessFlags := 1, nameIndex := 5, descriptorIndex := 1010, attributes := #[] }, { accessFlags := 2, nameIndex := 5, descriptorIndex := 29, attributes := #[] }] 49 2 #[1106, 1108, 575, 1110, 1112] #[{ accessFlags := 18, nameIndex := 13, descriptorIndex := 14, attributes := #[] }, { accessFlags := 18, nameIndex := 17, descriptorIndex := 18, attributes := #[] }, { accessFlags := 2, nameIndex := 21, descriptorIndex := 22, attributes := #[] }, { accessFlags := 2, nameIndex := 25, descriptorIndex := 26, attributes := #[] }, { accessFlags := 26, nameIndex := 1116, descriptorIndex := 1117, attributes := #[] }, { accessFlags := 24, nameIndex := 40, descriptorIndex := 26, attributes := #[] }, { accessFlags := 26, nameIndex := 1101, descriptorIndex := 1102, attributes := #[] }, { accessFlags := 26, nameIndex := 1121, descriptorIndex := 1122, attributes := #[] }, { accessFlags := 25, nameIndex := 599, descriptorIndex := 600, attributes := #[] }, { accessFlags := 24, nameIndex := 1125, descriptorIndex := 18, attributes := #[] }, { accessFlags := 24, nameIndex := 1127, descriptorIndex := 18, attributes := #[] }])
  fields := #[{ name := "value", type := (.array .byte), accessFlags := 18, slot := 0, constantValue := 0 }, { name := "coder", type := .byte, accessFlags := 18, slot := 1, constantValue := 0 }, { name := "hash", type := .int, accessFlags := 2, slot := 2, constantValue := 0 }, { name := "hashIsZero", type := .boolean, accessFlags := 2, slot := 3, constantValue := 0 }, { name := "serialVersionUID", type := .long, accessFlags := 26, slot := 0, constantValue := 0 }, { name := "COMPACT_STRINGS", type := .boolean, accessFlags := 24, slot := 1, constantValue := 0 }, { name := "serialPersistentFields", type := (.array (.object "java/io/ObjectStreamField")), accessFlags := 26, slot := 2, constantValue := 0 }, { name := "REPL", type := .char, accessFlags := 26, slot := 3, constantValue := 0 }, { name := "CASE_INSENSITIVE_ORDER", type := (.object "java/util/Comparator"), accessFlags := 25, slot := 4, constantValue := 0 }, { name := "LATIN1", type := .byte, accessFlags := 24, slot := 5, constantValue := 0 }, { name := "UTF16", type := .byte, accessFlags := 24, slot := 6, constantValue := 0 }]
  methods := #[k8m0, k8m1, k8m2]
  instanceTypes := #[(.array .byte), .byte, .int, .boolean]
  staticTypes := #[.long, .boolean, (.array (.object "java/io/ObjectStreamField")), .char, (.object "java/util/Comparator"), .byte, .byte]
  resolved := Array.replicate 1451 none
  statics := some 0 }

def pool9 : Array CpInfo := pool [(6, .class_ 8), (1, u "java/lang/Object"), (0, u "<init>"), (0, u "()V"), (1, .class_ 14), (1, u "java/lang/StringUTF16"), (31, u "$assertionsDisabled"), (0, u "Z"), (13, u "HI_BYTE_SHIFT"), (0, u "I"), (2, u "LO_BYTE_SHIFT"), (49, .methodref 12 116), (0, .nameAndType 117 118), (0, u "compress"), (0, u "([CI[BII)I"), (3, u "([CII)[B"), (138, u "coderFromArrayLen"), (0, u "([BI)B"), (106, .class_ 371), (1, u "java/lang/StringUTF16$LinesSpliterator"), (58, u "MAX_LENGTH"), (196, .class_ 628), (0, u "java/lang/StringUTF16$CodePointsSpliterator"), (0, .class_ 630), (0, u "java/lang/StringUTF16$CharsSpliterator")] 4

def k9m0 : Method := { name := "<init>", desc := "()V", sig := { parameters := [], returnType := none }, accessFlags := 0, code := none }
def k9c1 : Code := { maxStack := 2, maxLocals := 2, code := jdk_52_method_15_code, exceptionTable := #[], attributes := #[] }
def k9m1 : Method := { name := "coderFromArrayLen", desc := "([BI)B", sig := { parameters := [(.array .byte), .int], returnType := some .byte }, accessFlags := 8, code := some k9c1 }
def k9c2 : Code := { maxStack := 5, maxLocals := 6, code := jdk_52_method_16_code, exceptionTable := #[], attributes := #[] }
def k9m2 : Method := { name := "compress", desc := "([CII)[B", sig := { parameters := [(.array .char), .int, .int], returnType := some (.array .byte) }, accessFlags := 9, code := some k9c2 }
def k9c3 : Code := { maxStack := 3, maxLocals := 7, code := jdk_52_method_21_code, exceptionTable := #[], attributes := #[] }
def k9m3 : Method := { name := "compress", desc := "([CI[BII)I", sig := { parameters := [(.array .char), .int, (.array .byte), .int, .int], returnType := some .int }, accessFlags := 9, code := some k9c3 }
/-- java/lang/StringUTF16 -/
def k9 : Class := { plain "java/lang/StringUTF16" (some 0) with
  accessFlags := 48
  interfaces := #[]
  cf := some (fileOf pool9 12 #[.nestMembers #[627, 629, 369]] #[{ accessFlags := 0, nameIndex := 9, descriptorIndex := 10, attributes := #[] }, { accessFlags := 8, nameIndex := 261, descriptorIndex := 262, attributes := #[] }, { accessFlags := 9, nameIndex := 117, descriptorIndex := 122, attributes := #[] }, { accessFlags := 9, nameIndex := 117, descriptorIndex := 118, attributes := #[] }] 48 6 #[] #[{ accessFlags := 26, nameIndex := 61, descriptorIndex := 62, attributes := #[] }, { accessFlags := 26, nameIndex := 65, descriptorIndex := 62, attributes := #[] }, { accessFlags := 24, nameIndex := 430, descriptorIndex := 62, attributes := #[] }, { accessFlags := 4120, nameIndex := 46, descriptorIndex := 47, attributes := #[] }])
  fields := #[{ name := "HI_BYTE_SHIFT", type := .int, accessFlags := 26, slot := 0, constantValue := 0 }, { name := "LO_BYTE_SHIFT", type := .int, accessFlags := 26, slot := 1, constantValue := 0 }, { name := "MAX_LENGTH", type := .int, accessFlags := 24, slot := 2, constantValue := 0 }, { name := "$assertionsDisabled", type := .boolean, accessFlags := 4120, slot := 3, constantValue := 0 }]
  methods := #[k9m0, k9m1, k9m2, k9m3]
  instanceTypes := #[]
  staticTypes := #[.int, .int, .int, .boolean]
  resolved := Array.replicate 635 none
  statics := none }

def pool10 : Array CpInfo := pool [(4, .class_ 6), (1, u "java/lang/Object"), (0, u "<init>"), (0, u "()V"), (5, .class_ 16), (1, u "java/lang/StringLatin1"), (104, u "$assertionsDisabled"), (0, u "Z"), (98, .class_ 223), (1, u "java/lang/StringLatin1$LinesSpliterator"), (166, .class_ 391), (0, u "java/lang/StringLatin1$CharsSpliterator")] 3

def k10m0 : Method := { name := "<init>", desc := "()V", sig := { parameters := [], returnType := none }, accessFlags := 0, code := none }
/-- java/lang/StringLatin1 -/
def k10 : Class := { plain "java/lang/StringLatin1" (some 0) with
  accessFlags := 48
  interfaces := #[]
  cf := some (fileOf pool10 14 #[.nestMembers #[390, 221]] #[{ accessFlags := 0, nameIndex := 7, descriptorIndex := 8, attributes := #[] }] 48 4 #[] #[{ accessFlags := 4120, nameIndex := 121, descriptorIndex := 122, attributes := #[] }])
  fields := #[{ name := "$assertionsDisabled", type := .boolean, accessFlags := 4120, slot := 0, constantValue := 0 }]
  methods := #[k10m0]
  instanceTypes := #[]
  staticTypes := #[.boolean]
  resolved := Array.replicate 395 none
  statics := none }

def pool11 : Array CpInfo := pool [(2, .class_ 4), (1, u "java/lang/Object"), (0, u "<init>"), (0, u "()V"), (17, .class_ 26), (1, u "jdk/internal/util/Preconditions"), (28, .class_ 56), (0, u "jdk/internal/util/Preconditions$4"), (57, .class_ 115), (0, u "jdk/internal/util/Preconditions$1"), (7, u "SIOOBE_FORMATTER"), (0, u "Ljava/util/function/BiFunction;"), (0, .class_ 126), (0, u "jdk/internal/util/Preconditions$2"), (3, u "AIOOBE_FORMATTER"), (0, .class_ 132), (0, u "jdk/internal/util/Preconditions$3"), (3, u "IOOBE_FORMATTER")] 57

def k11m0 : Method := { name := "<init>", desc := "()V", sig := { parameters := [], returnType := none }, accessFlags := 1, code := none }
/-- jdk/internal/util/Preconditions -/
def k11 : Class := { plain "jdk/internal/util/Preconditions" (some 0) with
  accessFlags := 33
  interfaces := #[]
  cf := some (fileOf pool11 24 #[.nestMembers #[55, 131, 125, 114]] #[{ accessFlags := 1, nameIndex := 5, descriptorIndex := 6, attributes := #[] }] 33 2 #[] #[{ accessFlags := 25, nameIndex := 123, descriptorIndex := 124, attributes := #[] }, { accessFlags := 25, nameIndex := 130, descriptorIndex := 124, attributes := #[] }, { accessFlags := 25, nameIndex := 136, descriptorIndex := 124, attributes := #[] }])
  fields := #[{ name := "SIOOBE_FORMATTER", type := (.object "java/util/function/BiFunction"), accessFlags := 25, slot := 0, constantValue := 0 }, { name := "AIOOBE_FORMATTER", type := (.object "java/util/function/BiFunction"), accessFlags := 25, slot := 1, constantValue := 0 }, { name := "IOOBE_FORMATTER", type := (.object "java/util/function/BiFunction"), accessFlags := 25, slot := 2, constantValue := 0 }]
  methods := #[k11m0]
  instanceTypes := #[]
  staticTypes := #[(.object "java/util/function/BiFunction"), (.object "java/util/function/BiFunction"), (.object "java/util/function/BiFunction")]
  resolved := Array.replicate 194 none
  statics := some 1 }

def pool12 : Array CpInfo := pool [(9, u "<init>"), (6, .class_ 18), (1, u "java/lang/Object"), (0, u "()V"), (1, .class_ 23), (1, u "jdk/internal/util/ArraysSupport"), (0, u "LOG2_ARRAY_LONG_INDEX_SCALE"), (0, u "I"), (2, u "U"), (0, u "Ljdk/internal/misc/Unsafe;"), (8, u "BIG_ENDIAN"), (0, u "Z"), (8, u "LOG2_BYTE_BIT_SIZE"), (4, u "LOG2_ARRAY_INT_INDEX_SCALE"), (54, u "JLA"), (0, u "Ljdk/internal/access/JavaLangAccess;"), (11, u "LOG2_ARRAY_BOOLEAN_INDEX_SCALE"), (9, u "LOG2_ARRAY_BYTE_INDEX_SCALE"), (5, u "LOG2_ARRAY_CHAR_INDEX_SCALE"), (5, u "LOG2_ARRAY_SHORT_INDEX_SCALE"), (18, u "LOG2_ARRAY_FLOAT_INDEX_SCALE"), (24, u "LOG2_ARRAY_DOUBLE_INDEX_SCALE"), (89, u "T_BOOLEAN"), (2, u "T_CHAR"), (1, u "T_FLOAT"), (1, u "T_DOUBLE"), (1, u "T_BYTE"), (1, u "T_SHORT"), (1, u "T_INT"), (1, u "T_LONG"), (1, u "SOFT_MAX_ARRAY_LENGTH")] 83

def k12m0 : Method := { name := "<init>", desc := "()V", sig := { parameters := [], returnType := none }, accessFlags := 2, code := none }
/-- jdk/internal/util/ArraysSupport -/
def k12 : Class := { plain "jdk/internal/util/ArraysSupport" (some 0) with
  accessFlags := 33
  interfaces := #[]
  cf := some (fileOf pool12 21 #[] #[{ accessFlags := 2, nameIndex := 9, descriptorIndex := 19, attributes := #[] }] 33 16 #[] #[{ accessFlags := 24, nameIndex := 28, descriptorIndex := 29, attributes := #[] }, { accessFlags := 26, nameIndex := 38, descriptorIndex := 39, attributes := #[] }, { accessFlags := 25, nameIndex := 121, descriptorIndex := 25, attributes := #[] }, { accessFlags := 25, nameIndex := 131, descriptorIndex := 25, attributes := #[] }, { accessFlags := 25, nameIndex := 137, descriptorIndex := 25, attributes := #[] }, { accessFlags := 25, nameIndex := 143, descriptorIndex := 25, attributes := #[] }, { accessFlags := 25, nameIndex := 53, descriptorIndex := 25, attributes := #[] }, { accessFlags := 25, nameIndex := 24, descriptorIndex := 25, attributes := #[] }, { accessFlags := 25, nameIndex := 162, descriptorIndex := 25, attributes := #[] }, { accessFlags := 25, nameIndex := 187, descriptorIndex := 25, attributes := #[] }, { accessFlags := 26, nameIndex := 48, descriptorIndex := 25, attributes := #[] }, { accessFlags := 25, nameIndex := 277, descriptorIndex := 25, attributes := #[] }, { accessFlags := 25, nameIndex := 280, descriptorIndex := 25, attributes := #[] }, { accessFlags := 25, nameIndex := 282, descriptorIndex := 25, attributes := #[] }, { accessFlags := 25, nameIndex := 284, descriptorIndex := 25, attributes := #[] }, { accessFlags := 25, nameIndex := 286, descriptorIndex := 25, attributes := #[] }, { accessFlags := 25, nameIndex := 288, descriptorIndex := 25, attributes := #[] }, { accessFlags := 25, nameIndex := 290, descriptorIndex := 25, attributes := #[] }, { accessFlags := 25, nameIndex := 292, descriptorIndex := 25, attributes := #[] }, { accessFlags := 26, nameIndex := 108, descriptorIndex := 109, attributes := #[] }, { accessFlags := 25, nameIndex := 294, descriptorIndex := 25, attributes := #[] }])
  fields := #[{ name := "U", type := (.object "jdk/internal/misc/Unsafe"), accessFlags := 24, slot := 0, constantValue := 0 }, { name := "BIG_ENDIAN", type := .boolean, accessFlags := 26, slot := 1, constantValue := 0 }, { name := "LOG2_ARRAY_BOOLEAN_INDEX_SCALE", type := .int, accessFlags := 25, slot := 2, constantValue := 0 }, { name := "LOG2_ARRAY_BYTE_INDEX_SCALE", type := .int, accessFlags := 25, slot := 3, constantValue := 0 }, { name := "LOG2_ARRAY_CHAR_INDEX_SCALE", type := .int, accessFlags := 25, slot := 4, constantValue := 0 }, { name := "LOG2_ARRAY_SHORT_INDEX_SCALE", type := .int, accessFlags := 25, slot := 5, constantValue := 0 }, { name := "LOG2_ARRAY_INT_INDEX_SCALE", type := .int, accessFlags := 25, slot := 6, constantValue := 0 }, { name := "LOG2_ARRAY_LONG_INDEX_SCALE", type := .int, accessFlags := 25, slot := 7, constantValue := 0 }, { name := "LOG2_ARRAY_FLOAT_INDEX_SCALE", type := .int, accessFlags := 25, slot := 8, constantValue := 0 }, { name := "LOG2_ARRAY_DOUBLE_INDEX_SCALE", type := .int, accessFlags := 25, slot := 9, constantValue := 0 }, { name := "LOG2_BYTE_BIT_SIZE", type := .int, accessFlags := 26, slot := 10, constantValue := 0 }, { name := "T_BOOLEAN", type := .int, accessFlags := 25, slot := 11, constantValue := 0 }, { name := "T_CHAR", type := .int, accessFlags := 25, slot := 12, constantValue := 0 }, { name := "T_FLOAT", type := .int, accessFlags := 25, slot := 13, constantValue := 0 }, { name := "T_DOUBLE", type := .int, accessFlags := 25, slot := 14, constantValue := 0 }, { name := "T_BYTE", type := .int, accessFlags := 25, slot := 15, constantValue := 0 }, { name := "T_SHORT", type := .int, accessFlags := 25, slot := 16, constantValue := 0 }, { name := "T_INT", type := .int, accessFlags := 25, slot := 17, constantValue := 0 }, { name := "T_LONG", type := .int, accessFlags := 25, slot := 18, constantValue := 0 }, { name := "JLA", type := (.object "jdk/internal/access/JavaLangAccess"), accessFlags := 26, slot := 19, constantValue := 0 }, { name := "SOFT_MAX_ARRAY_LENGTH", type := .int, accessFlags := 25, slot := 20, constantValue := 0 }]
  methods := #[k12m0]
  instanceTypes := #[]
  staticTypes := #[(.object "jdk/internal/misc/Unsafe"), .boolean, .int, .int, .int, .int, .int, .int, .int, .int, .int, .int, .int, .int, .int, .int, .int, .int, .int, (.object "jdk/internal/access/JavaLangAccess"), .int]
  resolved := Array.replicate 378 none
  statics := none }

def pool13 : Array CpInfo := pool [(1, u "java/lang/Cloneable"), (0, .class_ 1), (0, u "java/lang/Object"), (0, .class_ 3)] 3

/-- java/lang/Cloneable -/
def k13 : Class := { plain "java/lang/Cloneable" (some 0) with
  accessFlags := 1537
  interfaces := #[]
  cf := some (fileOf pool13 2 #[] #[] 1537 4 #[] #[])
  fields := #[]
  methods := #[]
  instanceTypes := #[]
  staticTypes := #[]
  resolved := Array.replicate 8 none
  statics := none }

/-- the primitive byte -/
def k14 : Class := { plain "byte" none with kind := .primitive 'B', accessFlags := 0x411 }
/-- [B -/
def k15 : Class := { plain "[B" (some 0) with kind := .array 14 .byte, interfaces := #[13, 3], accessFlags := 1041 }

/-- the primitive char -/
def k16 : Class := { plain "char" none with kind := .primitive 'C', accessFlags := 0x411 }
/-- [C -/
def k17 : Class := { plain "[C" (some 0) with kind := .array 16 .char, interfaces := #[13, 3], accessFlags := 1041 }

/-- the primitive int -/
def k18 : Class := { plain "int" none with kind := .primitive 'I', accessFlags := 0x411 }
/-- [I -/
def k19 : Class := { plain "[I" (some 0) with kind := .array 18 .int, interfaces := #[13, 3], accessFlags := 1041 }

def heap : Heap := #[{ cls := 8, slots := #[.long 0, .int 1, .null, .int 0, .null, .int 0, .int 0], vm := .statics 8 },
  { cls := 11, slots := #[.null, .null, .null], vm := .statics 11 }]
def classes : Array Class := #[k0, k1, k2, k3, k4, k5, k6, k7, k8, k9, k10, k11, k12, k13, k14, k15, k16, k17, k18, k19]
def interned : List (Array UInt16 × Addr) := []
def slotsUsed : Nat := 10
def theMethod : MethodId := ⟨1, 1⟩
def args0 : Array Value := #[.int 5, .int 65, .int 66, .int 1]
def aboutOver (below : List Frame) : State where
  vm := { classes := classes, interned := interned.toArray }
  heap := heap
  slotsUsed := slotsUsed
  threads := #[{ frames := .invoking theMethod args0 :: below }]
def below0 : List Frame := [.native { method := ⟨0, 0⟩, args := #[] }]
def about1 : State := aboutOver below0
def p0 : Program := .bare "" "" ""
def e0 : Env := launch0.env 0 0 0
theorem w_frames : about1.frames = Frame.invoking theMethod args0 :: below0 := rfl
set_option maxRecDepth 65536 in
theorem w_args : argsFit about1.vm theMethod args0 = true := by decide +kernel
set_option maxRecDepth 65536 in
theorem w_heap : heapFits about1 = true := by decide +kernel
set_option maxRecDepth 65536 in
theorem w_runnable : about1.curStatus? = some .runnable := by decide +kernel
set_option maxRecDepth 65536 in
theorem w_alone : about1.alone = true := by decide +kernel
set_option maxRecDepth 65536 in
theorem w_named : about1.methodNamed? x = some theMethod := by decide +kernel
set_option maxRecDepth 65536 in
theorem w_hears : about1.hears theMethod below0 = true := by decide +kernel
set_option maxRecDepth 65536 in
theorem w_ripe : about1.ripe theMethod args0 below0 = true := by decide +kernel
theorem w_running : about1.status = .running := rfl
set_option maxRecDepth 65536 in
theorem w_room : about1.hasRoom e0.platform room_1 = true :=
  launch0.hasRoom_least _ room_1 (by decide +kernel) (by decide +kernel) (by decide +kernel) (by decide +kernel) (by decide +kernel) (by decide +kernel)
theorem allAtoms_all (ts : List Jvm.Cond) (a : Array Jvm.Value) (st : Jvm.State) : (allAtoms ts).before a st = ts.all (fun c => c.before a st) := by
  induction ts with
  | nil => rfl
  | cons c t ih =>
    show (Jvm.Cond.and c (allAtoms t)).before a st = _
    rw [Jvm.Cond.before_and, ih, List.all_cons]
def words1 : List Jvm.Cond := Jvm.Cond.code x code maxLocals ret :: tables_1
/-- a 'code' word, met by the world's own term for the bytes: nothing is compared byte by byte -/
theorem code_word {y : MethodName} {bytes : ByteArray} {mx : Nat} {rt : Option FieldType} {a : Array Value} {s : State} {m : MethodId} {meth : Method} {c : Code} (h1 : s.methodNamed? y = some m) (h2 : s.vm.method? m = some meth) (h3 : meth.code = some c) (h4 : c.code = bytes)
    (h5 : (c.maxLocals == mx && c.exceptionTable.isEmpty && decide (c.maxStack ≤ mostOperands) && decide (meth.sig.returnType = rt) && !meth.locks && decide (parseMethodDescriptor y.desc = some meth.sig)) = true) : (Jvm.Cond.code y bytes mx rt).before a s = true := by
  simp only [Bool.and_eq_true, beq_iff_eq, Bool.not_eq_true', decide_eq_true_eq] at h5
  obtain ⟨⟨⟨⟨⟨g1, g2⟩, g3⟩, g4⟩, g5⟩, g6⟩ := h5
  simp [Cond.before, Cond.holds, Cond.value, h1, h2, h3, h4, g1, g2, g3, g4, g5, g6]
def isCode : Jvm.Cond → Bool
  | .code _ _ _ _ => true
  | _ => false
theorem all_split {L : List Jvm.Cond} {P : Jvm.Cond → Bool} (h1 : L.all (fun c => isCode c || P c) = true) (h2 : ∀ c ∈ L.filter isCode, P c = true) : L.all P = true := by
  refine List.all_eq_true.mpr fun c hc => ?_
  have h := List.all_eq_true.mp h1 c hc
  rcases Bool.eq_false_or_eq_true (isCode c) with hi | hi
  · exact h2 c (List.mem_filter.mpr ⟨hc, hi⟩)
  · simpa [hi] using h
set_option maxRecDepth 65536 in
theorem w_c0 : (Jvm.Cond.code x code maxLocals ret).before args0 about1 = true := code_word (m := ⟨1, 1⟩) (meth := k1m1) (c := k1c1) (by decide +kernel) rfl rfl rfl (by decide +kernel)
set_option maxRecDepth 65536 in
theorem w_c1 : (Jvm.Cond.code ({ cls := "java/lang/String", name := "<init>", desc := "([C)V" } : Jvm.MethodName) jdk_42_method_3_code (2 : Nat) (Option.none : Option Jvm.ClassFile.FieldType)).before args0 about1 = true := code_word (m := ⟨8, 1⟩) (meth := k8m1) (c := k8c1) (by decide +kernel) rfl rfl rfl (by decide +kernel)
set_option maxRecDepth 65536 in
theorem w_c2 : (Jvm.Cond.code ({ cls := "java/lang/String", name := "<init>", desc := "([CIILjava/lang/Void;)V" } : Jvm.MethodName) jdk_42_method_149_code (6 : Nat) (Option.none : Option Jvm.ClassFile.FieldType)).before args0 about1 = true := code_word (m := ⟨8, 2⟩) (meth := k8m2) (c := k8c2) (by decide +kernel) rfl rfl rfl (by decide +kernel)
set_option maxRecDepth 65536 in
theorem w_c3 : (Jvm.Cond.code ({ cls := "java/lang/Object", name := "<init>", desc := "()V" } : Jvm.MethodName) object_method_1_code (1 : Nat) (Option.none : Option Jvm.ClassFile.FieldType)).before args0 about1 = true := code_word (m := ⟨0, 0⟩) (meth := k0m0) (c := k0c0) (by decide +kernel) rfl rfl rfl (by decide +kernel)
set_option maxRecDepth 65536 in
theorem w_c4 : (Jvm.Cond.code ({ cls := "java/lang/StringUTF16", name := "compress", desc := "([CII)[B" } : Jvm.MethodName) jdk_52_method_16_code (6 : Nat) (Option.some (Jvm.ClassFile.FieldType.array Jvm.ClassFile.FieldType.byte))).before args0 about1 = true := code_word (m := ⟨9, 2⟩) (meth := k9m2) (c := k9c2) (by decide +kernel) rfl rfl rfl (by decide +kernel)
set_option maxRecDepth 65536 in
theorem w_c5 : (Jvm.Cond.code ({ cls := "java/lang/StringUTF16", name := "compress", desc := "([CI[BII)I" } : Jvm.MethodName) jdk_52_method_21_code (7 : Nat) (Option.some Jvm.ClassFile.FieldType.int)).before args0 about1 = true := code_word (m := ⟨9, 3⟩) (meth := k9m3) (c := k9c3) (by decide +kernel) rfl rfl rfl (by decide +kernel)
set_option maxRecDepth 65536 in
theorem w_c6 : (Jvm.Cond.code ({ cls := "java/lang/StringUTF16", name := "coderFromArrayLen", desc := "([BI)B" } : Jvm.MethodName) jdk_52_method_15_code (2 : Nat) (Option.some Jvm.ClassFile.FieldType.byte)).before args0 about1 = true := code_word (m := ⟨9, 1⟩) (meth := k9m1) (c := k9c1) (by decide +kernel) rfl rfl rfl (by decide +kernel)
set_option maxRecDepth 65536 in
theorem w_c7 : (Jvm.Cond.code ({ cls := "com/example/kapu/kapu/service/Coverage$Part", name := "<init>", desc := "(Ljava/lang/String;Z)V" } : Jvm.MethodName) prog_96_method_1_code (3 : Nat) (Option.none : Option Jvm.ClassFile.FieldType)).before args0 about1 = true := code_word (m := ⟨2, 0⟩) (meth := k2m0) (c := k2c0) (by decide +kernel) rfl rfl rfl (by decide +kernel)
set_option maxRecDepth 65536 in
theorem w_c8 : (Jvm.Cond.code ({ cls := "com/example/kapu/kapu/service/Coverage$Part", name := "isCovered", desc := "(Z)Z" } : Jvm.MethodName) prog_96_method_4_code (2 : Nat) (Option.some Jvm.ClassFile.FieldType.boolean)).before args0 about1 = true := code_word (m := ⟨2, 1⟩) (meth := k2m1) (c := k2c1) (by decide +kernel) rfl rfl rfl (by decide +kernel)
set_option maxRecDepth 65536 in
theorem w_c9 : (Jvm.Cond.code ({ cls := "com/example/kapu/kapu/service/Coverage$Part", name := "cover", desc := "(Z)V" } : Jvm.MethodName) prog_96_method_5_code (2 : Nat) (Option.none : Option Jvm.ClassFile.FieldType)).before args0 about1 = true := code_word (m := ⟨2, 2⟩) (meth := k2m2) (c := k2c2) (by decide +kernel) rfl rfl rfl (by decide +kernel)
def codes1 : List Jvm.Cond := [Jvm.Cond.code x code maxLocals ret, Jvm.Cond.code ({ cls := "java/lang/String", name := "<init>", desc := "([C)V" } : Jvm.MethodName) jdk_42_method_3_code (2 : Nat) (Option.none : Option Jvm.ClassFile.FieldType), Jvm.Cond.code ({ cls := "java/lang/String", name := "<init>", desc := "([CIILjava/lang/Void;)V" } : Jvm.MethodName) jdk_42_method_149_code (6 : Nat) (Option.none : Option Jvm.ClassFile.FieldType), Jvm.Cond.code ({ cls := "java/lang/Object", name := "<init>", desc := "()V" } : Jvm.MethodName) object_method_1_code (1 : Nat) (Option.none : Option Jvm.ClassFile.FieldType), Jvm.Cond.code ({ cls := "java/lang/StringUTF16", name := "compress", desc := "([CII)[B" } : Jvm.MethodName) jdk_52_method_16_code (6 : Nat) (Option.some (Jvm.ClassFile.FieldType.array Jvm.ClassFile.FieldType.byte)), Jvm.Cond.code ({ cls := "java/lang/StringUTF16", name := "compress", desc := "([CI[BII)I" } : Jvm.MethodName) jdk_52_method_21_code (7 : Nat) (Option.some Jvm.ClassFile.FieldType.int), Jvm.Cond.code ({ cls := "java/lang/StringUTF16", name := "coderFromArrayLen", desc := "([BI)B" } : Jvm.MethodName) jdk_52_method_15_code (2 : Nat) (Option.some Jvm.ClassFile.FieldType.byte), Jvm.Cond.code ({ cls := "com/example/kapu/kapu/service/Coverage$Part", name := "<init>", desc := "(Ljava/lang/String;Z)V" } : Jvm.MethodName) prog_96_method_1_code (3 : Nat) (Option.none : Option Jvm.ClassFile.FieldType), Jvm.Cond.code ({ cls := "com/example/kapu/kapu/service/Coverage$Part", name := "isCovered", desc := "(Z)Z" } : Jvm.MethodName) prog_96_method_4_code (2 : Nat) (Option.some Jvm.ClassFile.FieldType.boolean), Jvm.Cond.code ({ cls := "com/example/kapu/kapu/service/Coverage$Part", name := "cover", desc := "(Z)V" } : Jvm.MethodName) prog_96_method_5_code (2 : Nat) (Option.none : Option Jvm.ClassFile.FieldType)]
set_option maxRecDepth 65536 in
theorem codes_eq : words1.filter isCode = codes1 := rfl
theorem w_codes : ∀ c ∈ words1.filter isCode, c.before args0 about1 = true := by
  rw [codes_eq]
  intro c hc
  simp only [codes1, List.mem_cons, List.not_mem_nil, or_false] at hc
  rcases hc with rfl | rfl | rfl | rfl | rfl | rfl | rfl | rfl | rfl | rfl
  · exact w_c0
  · exact w_c1
  · exact w_c2
  · exact w_c3
  · exact w_c4
  · exact w_c5
  · exact w_c6
  · exact w_c7
  · exact w_c8
  · exact w_c9
set_option maxRecDepth 65536 in
theorem w_t1 : (words1.take 24).all (fun c => isCode c || c.before args0 about1) = true := by decide +kernel
set_option maxRecDepth 65536 in
theorem w_t2 : ((words1.drop 24).take 24).all (fun c => isCode c || c.before args0 about1) = true := by decide +kernel
set_option maxRecDepth 65536 in
theorem w_t3 : ((words1.drop 24).drop 24).all (fun c => isCode c || c.before args0 about1) = true := by decide +kernel
theorem w_tables : (allAtoms (Jvm.Cond.code x code maxLocals ret :: tables_1)).before args0 about1 = true := by
  rw [allAtoms_all]
  show words1.all (fun c => c.before args0 about1) = true
  refine all_split ?_ w_codes
  rw [← List.take_append_drop 24 words1, List.all_append, w_t1, ← List.take_append_drop 24 (words1.drop 24), List.all_append, w_t2, w_t3]
  rfl
set_option maxRecDepth 65536 in
theorem w_rest : rest_1_c.before args0 about1 = true := by decide +kernel
set_option maxRecDepth 65536 in
theorem w_case : (Jvm.Cond.and given_1 narrow_1).before args0 about1 = true := by decide +kernel
theorem w_applies : (headSpec (Jvm.Cond.code x code maxLocals ret :: tables_1) room_1).applies x e0.platform about1 = true :=
  (Spec.applies_iff w_frames).mpr ⟨w_running, w_runnable, w_alone, w_named, w_hears, w_ripe, w_room, w_tables⟩
theorem atStart : AtStart classFile x code maxLocals ret World_1 tables_1 room_1 Calls_1 rest_1 Pre_1 launch0 p0 e0 about1 theMethod args0 below0 :=
  ⟨lists_1, trivial, launch0.admits_env _ _ _, launch0.least_env, fairChoices_fair.cas, fairChoices_fair.clock, w_frames, w_args, w_heap, w_applies, trivial, w_rest, w_case⟩
end start1
theorem witness_1 : WitnessClaimed_1 := ⟨start1.p0, start1.e0, start1.about1, start1.theMethod, start1.args0, start1.below0, start1.atStart⟩
end Jvm.Pilot.@@N@@
