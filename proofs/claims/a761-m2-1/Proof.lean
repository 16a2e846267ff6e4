import JvmDerived
import JvmDerived.Pilot.@@N@@Statement
import JvmDerived.Pilot.@@N@@Code
set_option linter.unusedVariables false
set_option linter.unusedSimpArgs false
/- laws to paste: Road.backV (cut by pick.py; bodies as the Statement names them) -/
namespace Jvm.Pilot.@@N@@
namespace StrChars
open Jvm Sem ClassFile Op Lib Jvm.Stand Jvm.Free.XT Jvm.Free.ALB Jvm.Free.JM Jvm.Free
open Jvm.Lib.Cold (StaticIs)
/-- a char array whose places are chars -/
def Ch (a : Addr) (A : Cell) (U : State) : Prop := Arr .char a A U ∧ Typed .char A
theorem Ch.mv {a : Addr} {A : Cell} {U U' : State} (h : Ch a A U) (hal : U.vm.Alike U'.vm) (hh : U'.heap = U.heap) : Ch a A U' := ⟨h.1.mv hal hh, h.2⟩
theorem Ch.keep {a : Addr} {A : Cell} {U U' : State} (h : Ch a A U) (hal : U.vm.Alike U'.vm) (hk : U'.heap[a]? = some A) : Ch a A U' := ⟨h.1.keep hal hk, h.2⟩
/-- what place i of a char[]'s cell holds -/
def cv (A : Cell) (i : Nat) : Int32 := match A.slots[i]? with | some (.int x) => x | _ => 0
theorem Ch.get {a : Addr} {A : Cell} {U : State} (h : Ch a A U) {i : Nat} (hi : i < A.slots.size) : A.slots[i]? = some (.int (cv A i)) := by
  have e := Array.getElem?_eq_getElem hi
  have f := h.2 i _ e
  unfold cv; rw [e]
  generalize A.slots[i] = v at f
  cases v <;> simp [fits] at f ⊢
/-- the byte that i2b leaves of a char -/
def lo8 (x : Int32) : Int32 := x.toInt8.toInt32
theorem fits_lo8 (y : Int32) : fits .byte (.int (lo8 y)) = true := by
  have h1 := y.toInt8.le_toInt
  have h2 := y.toInt8.toInt_lt
  simp only [lo8, fits, Bool.and_eq_true, decide_eq_true_eq, Int32.le_iff_toInt_le, Int8.toInt_toInt32, show (-128 : Int32).toInt = -128 from by decide, show (127 : Int32).toInt = 127 from by decide]
  omega
/-- A' is A but that each place j of lo .. hi - 1 holds f j -/
def Laid (A A' : Cell) (lo hi : Nat) (f : Nat → Value) : Prop := A'.cls = A.cls ∧ A'.vm = A.vm ∧ A'.slots.size = A.slots.size ∧ ∀ i, A'.slots[i]? = if lo ≤ i ∧ i < hi then some (f i) else A.slots[i]?
theorem Laid.zero (A : Cell) (lo : Nat) (f : Nat → Value) : Laid A A lo (lo + 0) f := ⟨rfl, rfl, rfl, fun i => by rw [if_neg (by omega)]⟩
theorem Laid.step {A Ak : Cell} {lo k : Nat} {f : Nat → Value} {v : Value} (h : Laid A Ak lo k f) (hlo : lo ≤ k) (hk : k < Ak.slots.size) (hv : v = f k) : Laid A (Ak.setSlot k v) lo (k + 1) f := by
  refine ⟨h.1, h.2.1, by simpa [Cell.setSlot] using h.2.2.1, fun i => ?_⟩
  by_cases e : k = i
  · subst e; rw [Cell.slots_setSlot_self v hk, if_pos (by omega), hv]
  · rw [Cell.slots_setSlot_ne v e, h.2.2.2 i]
    by_cases q : lo ≤ i ∧ i < k
    · rw [if_pos q, if_pos (by omega)]
    · rw [if_neg q, if_neg (by omega)]
def U16 : String := "java/lang/StringUTF16"
namespace Cmp5
def yN : MethodName := ⟨"java/lang/StringUTF16", "compress", "([CI[BII)I"⟩
abbrev yB : ByteArray := jdk_52_method_21_code
theorem d0 : decode yB 0 = .ok (.iconst 0, 1) := by decide +kernel
theorem d1 : decode yB 1 = .ok (.istore 5, 2) := by decide +kernel
theorem d3 : decode yB 3 = .ok (.iload 5, 2) := by decide +kernel
theorem d5 : decode yB 5 = .ok (.iload 4, 2) := by decide +kernel
theorem d7 : decode yB 7 = .ok (.if_icmp (.ge) 37, 3) := by decide +kernel
theorem d10 : decode yB 10 = .ok (.aload_n 0, 1) := by decide +kernel
theorem d11 : decode yB 11 = .ok (.iload_n 1, 1) := by decide +kernel
theorem d12 : decode yB 12 = .ok (.caload, 1) := by decide +kernel
theorem d13 : decode yB 13 = .ok (.istore 6, 2) := by decide +kernel
theorem d15 : decode yB 15 = .ok (.iload 6, 2) := by decide +kernel
theorem d17 : decode yB 17 = .ok (.sipush 255, 3) := by decide +kernel
theorem d20 : decode yB 20 = .ok (.if_icmp (.le) 6, 3) := by decide +kernel
theorem d26 : decode yB 26 = .ok (.aload_n 2, 1) := by decide +kernel
theorem d27 : decode yB 27 = .ok (.iload_n 3, 1) := by decide +kernel
theorem d28 : decode yB 28 = .ok (.iload 6, 2) := by decide +kernel
theorem d30 : decode yB 30 = .ok (.i2b, 1) := by decide +kernel
theorem d31 : decode yB 31 = .ok (.bastore, 1) := by decide +kernel
theorem d32 : decode yB 32 = .ok (.iinc 1 1, 3) := by decide +kernel
theorem d35 : decode yB 35 = .ok (.iinc 3 1, 3) := by decide +kernel
theorem d38 : decode yB 38 = .ok (.iinc 5 1, 3) := by decide +kernel
theorem d41 : decode yB 41 = .ok (.goto (-38), 3) := by decide +kernel
theorem d44 : decode yB 44 = .ok (.iload 4, 2) := by decide +kernel
theorem d46 : decode yB 46 = .ok (.ireturn, 1) := by decide +kernel
def site : List Cond := []
def tab : Cond := tabOf yN yB 7 (some .int) site
def P (b : Addr) (A : Cell) (d : Addr) (B : Cell) (o q len : Nat) (args : Array Value) (s : State) : Prop := args = #[.ref b, .int (Int32.ofNat o), .ref d, .int (Int32.ofNat q), .int (Int32.ofNat len)] ∧ Ch b A s ∧ Arr .byte d B s ∧ b ≠ d ∧ o + len ≤ A.slots.size ∧ q + len ≤ B.slots.size ∧ ∀ i, i < len → ¬ 255 < cv A (o + i)
def E (b : Addr) (A : Cell) (d : Addr) (B : Cell) (o q len : Nat) (r : Option Value) (s u : State) : Prop := r = some (.int (Int32.ofNat len)) ∧ ∃ B', Put d B' s u ∧ Laid B B' q (q + len) (fun j => Value.int (lo8 (cv A (o + (j - q)))))
/-- no char of the range above 255: len; the places written hold each char's low byte -/
theorem law (l : Launch) (b : Addr) (A : Cell) (d : Addr) (B : Cell) (o q len : Nat) : Law l yN 5 5 0 0 yB 7 (some .int) site (P b A d B o q len) (E b A d B o q len) (copyLocs d q len) 0 0 := by
  refine Law.of_walk (plainFor_of_name (by decide +kernel)) (by decide +kernel) (by decide +kernel) (by decide) (fun _ _ h => by rw [h.1]; rfl) (fun _ U U' hal hh h => ⟨h.1, h.2.1.mv hal hh, h.2.2.1.mv hal hh, h.2.2.2⟩) (fun r U U' V V' h1 hal h2 h => ⟨h.1, h.2.elim fun B' q => ⟨B', q.1.mv h1 h2, q.2⟩⟩) ?_
  intro p e s m args below meth c s₁ X0 hexec hbytes hml hret hlk hnm hown hh0 W hP
  obtain ⟨rfl, hA, hB, hne, l1, l2, hp⟩ := hP
  have c1 : Steps p.tables e below (s₁.setTop (entryFrame m #[.ref b, .int (Int32.ofNat o), .ref d, .int (Int32.ofNat q), .int (Int32.ofNat len)] 7)) (s₁.setTop (mkF m 0 #[.val (.ref b), .val (.int (Int32.ofNat o)), .val (.ref d), .val (.int (Int32.ofNat q)), .val (.int (Int32.ofNat len)), .unset, .unset] [])) := entry rfl
  have hA0 := hA.1.mv X0.warmed.alike hh0
  have hB0 := hB.mv X0.warmed.alike hh0
  have a31 := hA.1.2.2.2
  have c2 : Steps p.tables e below (s₁.setTop (entryFrame m #[.ref b, .int (Int32.ofNat o), .ref d, .int (Int32.ofNat q), .int (Int32.ofNat len)] 7)) (s₁.setTop (mkF m 3 #[.val (.ref b), .val (.int (Int32.ofNat o)), .val (.ref d), .val (.int (Int32.ofNat q)), .val (.int (Int32.ofNat len)), .val (.int 0), .unset] [])) := c1.trans (by
    refine iconstV X0.here hexec rfl 0 (hb hbytes d0) (by decide) ?_
    refine XS.istore X0.here hexec rfl (hb hbytes d1) rfl rfl ?_
    exact Steps.refl _)
  have loop : ∀ (r i : Nat), i + r = len → ∀ (z : Slot), (z = .unset ∨ ∃ w, z = .val w ∧ w.category = 1) → ∀ (Tl : State) (Bk : Cell), Stand p l e { frames := 0, locals := 0, cells := 0, slots := 0 } s m #[.ref b, .int (Int32.ofNat o), .ref d, .int (Int32.ofNat q), .int (Int32.ofNat len)] below meth c Tl ([] ++ copyLocs d q i) 0 0 → Put d Bk s₁ Tl → Laid B Bk q (q + i) (fun j => Value.int (lo8 (cv A (o + (j - q))))) →
      Steps p.tables e below (s₁.setTop (entryFrame m #[.ref b, .int (Int32.ofNat o), .ref d, .int (Int32.ofNat q), .int (Int32.ofNat len)] 7)) (Tl.setTop (mkF m 3 #[.val (.ref b), .val (.int (Int32.ofNat (o + i))), .val (.ref d), .val (.int (Int32.ofNat (q + i))), .val (.int (Int32.ofNat len)), .val (.int (Int32.ofNat i)), z] [])) → ∃ (T' : State) (B' : Cell) (z' : Slot), Stand p l e { frames := 0, locals := 0, cells := 0, slots := 0 } s m #[.ref b, .int (Int32.ofNat o), .ref d, .int (Int32.ofNat q), .int (Int32.ofNat len)] below meth c T' ([] ++ copyLocs d q len) 0 0 ∧ Put d B' s₁ T' ∧ Laid B B' q (q + len) (fun j => Value.int (lo8 (cv A (o + (j - q))))) ∧
      Steps p.tables e below (s₁.setTop (entryFrame m #[.ref b, .int (Int32.ofNat o), .ref d, .int (Int32.ofNat q), .int (Int32.ofNat len)] 7)) (T'.setTop (mkF m 3 #[.val (.ref b), .val (.int (Int32.ofNat (o + len))), .val (.ref d), .val (.int (Int32.ofNat (q + len))), .val (.int (Int32.ofNat len)), .val (.int (Int32.ofNat len)), z'] [])) := by
    intro r
    induction r with
    | zero =>
      intro i hi z hz Tl Bk Xl pl fl cl
      have hil : i = len := by omega
      rw [hil] at Xl fl cl
      exact ⟨Tl, Bk, z, Xl, pl, fl, cl⟩
    | succ r ih =>
      intro i hi z hz Tl Bk Xl pl fl cl
      have all := X0.warmed.alike.symm.trans Xl.warmed.alike
      have hAl := hA0.keep all (pl.other hne hA0.1)
      have hBk := hB0.like all pl.1 fl.1 fl.2.1 fl.2.2.1
      have hlt : q + i < Bk.slots.size := by rw [fl.2.2.1]; omega
      have c3 : Steps p.tables e below (s₁.setTop (entryFrame m #[.ref b, .int (Int32.ofNat o), .ref d, .int (Int32.ofNat q), .int (Int32.ofNat len)] 7)) (Tl.setTop (mkF m 12 #[.val (.ref b), .val (.int (Int32.ofNat (o + i))), .val (.ref d), .val (.int (Int32.ofNat (q + i))), .val (.int (Int32.ofNat len)), .val (.int (Int32.ofNat i)), z] [.int (Int32.ofNat (o + i)), .ref b])) := cl.trans (by
        refine XS.iload Xl.here hexec rfl (hb hbytes d3) rfl ?_
        refine XS.iload Xl.here hexec rfl (hb hbytes d5) rfl ?_
        refine XS.icmpNo Xl.here hexec rfl (hb hbytes d7) rfl (ii_ge_f (lt32 (by omega) (by omega))) ?_
        refine XS.aloadN Xl.here hexec rfl (hb hbytes d10) rfl rfl ?_
        refine XS.iloadN Xl.here hexec rfl (hb hbytes d11) rfl ?_
        exact Steps.refl _)
      have c4 : Steps p.tables e below (s₁.setTop (entryFrame m #[.ref b, .int (Int32.ofNat o), .ref d, .int (Int32.ofNat q), .int (Int32.ofNat len)] 7)) (Tl.setTop (mkF m 13 #[.val (.ref b), .val (.int (Int32.ofNat (o + i))), .val (.ref d), .val (.int (Int32.ofNat (q + i))), .val (.int (Int32.ofNat len)), .val (.int (Int32.ofNat i)), z] [.int (cv A (o + i))])) := c3.trans (by
        refine Xl.aget hexec hAl rfl (hA.get (i := o + i) (by omega)) rfl rfl (hb hbytes d12) ?_
        exact Steps.refl _)
      have c5 : Steps p.tables e below (s₁.setTop (entryFrame m #[.ref b, .int (Int32.ofNat o), .ref d, .int (Int32.ofNat q), .int (Int32.ofNat len)] 7)) (Tl.setTop (mkF m 15 #[.val (.ref b), .val (.int (Int32.ofNat (o + i))), .val (.ref d), .val (.int (Int32.ofNat (q + i))), .val (.int (Int32.ofNat len)), .val (.int (Int32.ofNat i)), .val (.int (cv A (o + i)))] [])) := c4.trans (by
        refine XS.istoreS Xl.here hexec rfl (hb hbytes d13) rfl rfl hz ?_
        exact Steps.refl _)
      have c6 : Steps p.tables e below (s₁.setTop (entryFrame m #[.ref b, .int (Int32.ofNat o), .ref d, .int (Int32.ofNat q), .int (Int32.ofNat len)] 7)) (Tl.setTop (mkF m 31 #[.val (.ref b), .val (.int (Int32.ofNat (o + i))), .val (.ref d), .val (.int (Int32.ofNat (q + i))), .val (.int (Int32.ofNat len)), .val (.int (Int32.ofNat i)), .val (.int (cv A (o + i)))] [.int (lo8 (cv A (o + i))), .int (Int32.ofNat (q + i)), .ref d])) := c5.trans (by
        refine XS.iload Xl.here hexec rfl (hb hbytes d15) rfl ?_
        refine sipushV Xl.here hexec rfl 255 (hb hbytes d17) (by decide) ?_
        refine XS.icmpYes Xl.here hexec rfl (pc0 := 20) rfl (hb hbytes d20) rfl (ii_le_t (hp i (by omega))) (by decide) rfl ?_
        refine XS.aloadN Xl.here hexec rfl (hb hbytes d26) rfl rfl ?_
        refine XS.iloadN Xl.here hexec rfl (hb hbytes d27) rfl ?_
        refine XS.iload Xl.here hexec rfl (hb hbytes d28) rfl ?_
        refine i2b Xl.here hexec rfl (hb hbytes d30) rfl ?_
        exact Steps.refl _)
      obtain ⟨T7, X7, p7, st7⟩ := Xl.aput hexec hBk rfl hlt rfl (fits_lo8 (cv A (o + i))) (g := (mkF m 31 #[.val (.ref b), .val (.int (Int32.ofNat (o + i))), .val (.ref d), .val (.int (Int32.ofNat (q + i))), .val (.int (Int32.ofNat len)), .val (.int (Int32.ofNat i)), .val (.int (cv A (o + i)))] [.int (lo8 (cv A (o + i))), .int (Int32.ofNat (q + i)), .ref d])) rfl (rest := []) rfl (hb hbytes d31)
      have c8 : Steps p.tables e below (s₁.setTop (entryFrame m #[.ref b, .int (Int32.ofNat o), .ref d, .int (Int32.ofNat q), .int (Int32.ofNat len)] 7)) (T7.setTop (mkF m 32 #[.val (.ref b), .val (.int (Int32.ofNat (o + i))), .val (.ref d), .val (.int (Int32.ofNat (q + i))), .val (.int (Int32.ofNat len)), .val (.int (Int32.ofNat i)), .val (.int (cv A (o + i)))] [])) := c6.trans (st7 _ (Steps.refl _))
      have c9 : Steps p.tables e below (s₁.setTop (entryFrame m #[.ref b, .int (Int32.ofNat o), .ref d, .int (Int32.ofNat q), .int (Int32.ofNat len)] 7)) (T7.setTop (mkF m 3 #[.val (.ref b), .val (.int (Int32.ofNat (o + i) + 1)), .val (.ref d), .val (.int (Int32.ofNat (q + i) + 1)), .val (.int (Int32.ofNat len)), .val (.int (Int32.ofNat i + 1)), .val (.int (cv A (o + i)))] [])) := c8.trans (by
        refine iincV X7.here hexec rfl 1 (hb hbytes d32) (by decide) rfl rfl ?_
        refine iincV X7.here hexec rfl 1 (hb hbytes d35) (by decide) rfl rfl ?_
        refine iincV X7.here hexec rfl 1 (hb hbytes d38) (by decide) rfl rfl ?_
        refine XS.goto X7.here hexec rfl (pc0 := 41) rfl (hb hbytes d41) (by decide) rfl ?_
        exact Steps.refl _)
      have c10 : Steps p.tables e below (s₁.setTop (entryFrame m #[.ref b, .int (Int32.ofNat o), .ref d, .int (Int32.ofNat q), .int (Int32.ofNat len)] 7)) (T7.setTop (mkF m 3 #[.val (.ref b), .val (.int (Int32.ofNat (o + (i + 1)))), .val (.ref d), .val (.int (Int32.ofNat (q + (i + 1)))), .val (.int (Int32.ofNat len)), .val (.int (Int32.ofNat (i + 1))), .val (.int (cv A (o + i)))] [])) := by
        have := c9
        rw [succ32, succ32, succ32] at this
        exact this
      exact ih (i + 1) (by omega) _ (Or.inr ⟨_, rfl, rfl⟩) T7 _ (by rw [copyLocs_step, ← List.append_assoc]; exact X7) (pl.trans p7) (fl.step (by omega) hlt (by simp)) c10
  obtain ⟨T9, B9, z9, X9, p9, f9, g9⟩ := loop len 0 (by omega) .unset (Or.inl rfl) s₁ B (by simpa [copyLocs] using X0) ⟨hB0.1, fun _ _ => rfl, rfl⟩ (Laid.zero _ _ _) c2
  have c11 : Steps p.tables e below (s₁.setTop (entryFrame m #[.ref b, .int (Int32.ofNat o), .ref d, .int (Int32.ofNat q), .int (Int32.ofNat len)] 7)) (T9.setTop (mkF m 46 #[.val (.ref b), .val (.int (Int32.ofNat (o + len))), .val (.ref d), .val (.int (Int32.ofNat (q + len))), .val (.int (Int32.ofNat len)), .val (.int (Int32.ofNat len)), z9] [.int (Int32.ofNat len)])) := g9.trans (by
    refine XS.iload X9.here hexec rfl (hb hbytes d3) rfl ?_
    refine XS.iload X9.here hexec rfl (hb hbytes d5) rfl ?_
    refine XS.icmpYes X9.here hexec rfl (pc0 := 7) rfl (hb hbytes d7) rfl (ii_ge_t (nlt32 (by omega) (Nat.le_refl _))) (by decide) rfl ?_
    refine XS.iload X9.here hexec rfl (hb hbytes d44) rfl ?_
    exact Steps.refl _)
  exact ⟨T9, some (.int (Int32.ofNat len)), _, _, _, X9, by simp, rfl, rfl, (fun h => by cases h), ⟨rfl, B9, p9.from hh0, f9⟩, fun fs hl => c11.trans (X9.ireturnOut hexec hret rfl (Or.inl rfl) (hb hbytes d46) hl)⟩
end Cmp5
namespace Cmp3
def yN : MethodName := ⟨"java/lang/StringUTF16", "compress", "([CII)[B"⟩
abbrev yB : ByteArray := jdk_52_method_16_code
theorem d0 : decode yB 0 = .ok (.iload_n 2, 1) := by decide +kernel
theorem d1 : decode yB 1 = .ok (.newarray .byte, 2) := by decide +kernel
theorem d3 : decode yB 3 = .ok (.astore_n 3, 1) := by decide +kernel
theorem d4 : decode yB 4 = .ok (.aload_n 0, 1) := by decide +kernel
theorem d5 : decode yB 5 = .ok (.iload_n 1, 1) := by decide +kernel
theorem d6 : decode yB 6 = .ok (.aload_n 3, 1) := by decide +kernel
theorem d7 : decode yB 7 = .ok (.iconst 0, 1) := by decide +kernel
theorem d8 : decode yB 8 = .ok (.iload_n 2, 1) := by decide +kernel
theorem d9 : decode yB 9 = .ok (.invokestatic 115, 3) := by decide +kernel
theorem d12 : decode yB 12 = .ok (.istore 4, 2) := by decide +kernel
theorem d14 : decode yB 14 = .ok (.iload 4, 2) := by decide +kernel
theorem d16 : decode yB 16 = .ok (.iload_n 2, 1) := by decide +kernel
theorem d17 : decode yB 17 = .ok (.if_icmp (.eq) 40, 3) := by decide +kernel
theorem d57 : decode yB 57 = .ok (.aload_n 3, 1) := by decide +kernel
theorem d58 : decode yB 58 = .ok (.areturn, 1) := by decide +kernel
def site : List Cond := [.arrayClass .byte, Cmp5.tab] ++ staticW U16 115 Cmp5.yN
def tab : Cond := tabOf yN yB 6 (some (.array .byte)) site
def P (b : Addr) (A : Cell) (o len : Nat) (args : Array Value) (s : State) : Prop := args = #[.ref b, .int (Int32.ofNat o), .int (Int32.ofNat len)] ∧ Ch b A s ∧ o + len ≤ A.slots.size ∧ len ≤ 536870912 ∧ ∀ i, i < len → ¬ 255 < cv A (o + i)
def E (b : Addr) (A : Cell) (o len : Nat) (r : Option Value) (s u : State) : Prop := NewArr .byte "[B" len (fun j => .int (lo8 (cv A (o + j)))) r s u ∧ u.heap.size = s.heap.size + 1
/-- no char of the range above 255: a new byte[] of their low bytes -/
theorem law (l : Launch) (b : Addr) (A : Cell) (o len : Nat) : Law l yN 3 3 1 18 yB 6 (some (.array .byte)) site (P b A o len) (E b A o len) [] 1 len := by
  refine Law.of_walk (plainFor_of_name (by decide +kernel)) (by decide +kernel) (by decide +kernel) (by decide) (fun _ _ h => by rw [h.1]; rfl) (fun _ U U' hal hh h => ⟨h.1, h.2.1.mv hal hh, h.2.2⟩) (fun r U U' V V' h1 hal h2 h => ⟨NewArr.mv r U U' V V' h1 hal h2 h.1, by rw [h1, h2]; exact h.2⟩) ?_
  intro p e s m args below meth c s₁ X0 hexec hbytes hml hret hlk hnm hown hh0 W hP
  obtain ⟨rfl, hA, l1, l2, hp⟩ := hP
  have a31 := hA.1.2.2.2
  have c1 : Steps p.tables e below (s₁.setTop (entryFrame m #[.ref b, .int (Int32.ofNat o), .int (Int32.ofNat len)] 6)) (s₁.setTop (mkF m 0 #[.val (.ref b), .val (.int (Int32.ofNat o)), .val (.int (Int32.ofNat len)), .unset, .unset, .unset] [])) := entry rfl
  have c2 : Steps p.tables e below (s₁.setTop (entryFrame m #[.ref b, .int (Int32.ofNat o), .int (Int32.ofNat len)] 6)) (s₁.setTop (mkF m 1 #[.val (.ref b), .val (.int (Int32.ofNat o)), .val (.int (Int32.ofNat len)), .unset, .unset, .unset] [.int (Int32.ofNat len)])) := c1.trans (by
    refine XS.iloadN X0.here hexec rfl (hb hbytes d0) rfl ?_
    exact Steps.refl _)
  obtain ⟨T3, B3, X3, ba3, bs3, bv3, bh3, bf3, st3⟩ := X0.anew hexec (atype := .byte) (wk W (.arrayClass .byte)) rfl (by show len * 1 ≤ _; omega) (by omega) (g := (mkF m 1 #[.val (.ref b), .val (.int (Int32.ofNat o)), .val (.int (Int32.ofNat len)), .unset, .unset, .unset] [.int (Int32.ofNat len)])) rfl (hb hbytes d1) (rest := []) rfl (Nat.le_refl _) (by show 0 + len ≤ len; omega)
  rw [hh0] at ba3 st3
  have kp3 : XT.Kept s T3 := (XT.Kept.of_eq hh0).push bh3
  have hA3 := hA.keep X3.warmed.alike (kp3 _ _ hA.1.1)
  have hne : b ≠ s.heap.size := hA.1.ne
  have c4 : Steps p.tables e below (s₁.setTop (entryFrame m #[.ref b, .int (Int32.ofNat o), .int (Int32.ofNat len)] 6)) (T3.setTop (mkF m 3 #[.val (.ref b), .val (.int (Int32.ofNat o)), .val (.int (Int32.ofNat len)), .unset, .unset, .unset] [.ref s.heap.size])) := c2.trans (st3 _ (Steps.refl _))
  have c5 : Steps p.tables e below (s₁.setTop (entryFrame m #[.ref b, .int (Int32.ofNat o), .int (Int32.ofNat len)] 6)) (T3.setTop (mkF m 9 #[.val (.ref b), .val (.int (Int32.ofNat o)), .val (.int (Int32.ofNat len)), .val (.ref s.heap.size), .unset, .unset] [.int (Int32.ofNat len), .int 0, .ref s.heap.size, .int (Int32.ofNat o), .ref b])) := c4.trans (by
    refine XS.astoreN X3.here hexec rfl (hb hbytes d3) rfl rfl rfl ?_
    refine XS.aloadN X3.here hexec rfl (hb hbytes d4) rfl rfl ?_
    refine XS.iloadN X3.here hexec rfl (hb hbytes d5) rfl ?_
    refine XS.aloadN X3.here hexec rfl (hb hbytes d6) rfl rfl ?_
    refine iconstV X3.here hexec rfl 0 (hb hbytes d7) (by decide) ?_
    refine XS.iloadN X3.here hexec rfl (hb hbytes d8) rfl ?_
    exact Steps.refl _)
  obtain ⟨v6, T6, X6, E6, g6⟩ := X3.callS hexec (Cmp5.law l b A s.heap.size B3 o 0 len) hown (wks W (staticW U16 115 Cmp5.yN)) (wk W Cmp5.tab) (W := 0) (Nat.le_of_ble_eq_true rfl) (Nat.le_of_ble_eq_true rfl) (Nat.le_refl _) (by show 0 + len + 0 ≤ len; omega) (g := (mkF m 9 #[.val (.ref b), .val (.int (Int32.ofNat o)), .val (.int (Int32.ofNat len)), .val (.ref s.heap.size), .unset, .unset] [.int (Int32.ofNat len), .int (Int32.ofNat 0), .ref s.heap.size, .int (Int32.ofNat o), .ref b])) rfl (by rw [hml]; rfl) c5 (argsL := [.ref b, .int (Int32.ofNat o), .ref s.heap.size, .int (Int32.ofNat 0), .int (Int32.ofNat len)]) (rest := []) rfl rfl (by show 2 * 0 + 0 ≤ _; decide) (hb hbytes d9) (⟨rfl, hA3, ba3, hne, l1, by rw [bs3]; simp, hp⟩)
  obtain ⟨rfl, B6, p6, f6⟩ := E6
  have c7 : Steps p.tables e below (s₁.setTop (entryFrame m #[.ref b, .int (Int32.ofNat o), .int (Int32.ofNat len)] 6)) (T6.setTop (mkF m 12 #[.val (.ref b), .val (.int (Int32.ofNat o)), .val (.int (Int32.ofNat len)), .val (.ref s.heap.size), .unset, .unset] [.int (Int32.ofNat len)])) := g6
  have c8 : Steps p.tables e below (s₁.setTop (entryFrame m #[.ref b, .int (Int32.ofNat o), .int (Int32.ofNat len)] 6)) (T6.setTop (mkF m 58 #[.val (.ref b), .val (.int (Int32.ofNat o)), .val (.int (Int32.ofNat len)), .val (.ref s.heap.size), .val (.int (Int32.ofNat len)), .unset] [.ref s.heap.size])) := c7.trans (by
    refine XS.istore X6.here hexec rfl (hb hbytes d12) rfl rfl ?_
    refine XS.iload X6.here hexec rfl (hb hbytes d14) rfl ?_
    refine XS.iloadN X6.here hexec rfl (hb hbytes d16) rfl ?_
    refine XS.icmpYes X6.here hexec rfl (pc0 := 17) rfl (hb hbytes d17) rfl (ii_eq_t rfl) (by decide) rfl ?_
    refine XS.aloadN X6.here hexec rfl (hb hbytes d57) rfl rfl ?_
    exact Steps.refl _)
  have X8 := X6.wide (L' := []) (cells' := 1) (slots' := len) (fun x hx hlt => by
    simp only [List.nil_append, copyLocs, List.mem_map, List.mem_range] at hx
    obtain ⟨i, -, rfl⟩ := hx
    exact absurd hlt (Nat.lt_irrefl _)) (Nat.le_refl _) (by omega)
  exact ⟨T6, some (.ref s.heap.size), _, _, _, X8, rfl, rfl, rfl, (fun h => by cases h), ⟨⟨rfl, B6, ba3.like (X3.warmed.alike.symm.trans X6.warmed.alike) p6.1 f6.1 f6.2.1 f6.2.2.1, f6.2.1.trans bv3, by rw [X6.warmed.alike.findClass, f6.1]; exact bf3, by rw [f6.2.2.1, bs3]; simp, fun j hj => by rw [f6.2.2.2 j, if_pos (by omega)]; rfl, kp3.put p6 (Nat.le_refl _)⟩, by rw [p6.2.2, bh3, hh0]; simp⟩, fun fs hl => c8.trans (X8.areturnOut hexec rfl hret rfl (hb hbytes d58) hl)⟩
end Cmp3
namespace CodL
def yN : MethodName := ⟨"java/lang/StringUTF16", "coderFromArrayLen", "([BI)B"⟩
abbrev yB : ByteArray := jdk_52_method_15_code
theorem d0 : decode yB 0 = .ok (.iload_n 1, 1) := by decide +kernel
theorem d1 : decode yB 1 = .ok (.aload_n 0, 1) := by decide +kernel
theorem d2 : decode yB 2 = .ok (.arraylength, 1) := by decide +kernel
theorem d3 : decode yB 3 = .ok (.isub, 1) := by decide +kernel
theorem d4 : decode yB 4 = .ok (.bipush 31, 2) := by decide +kernel
theorem d6 : decode yB 6 = .ok (.iushr, 1) := by decide +kernel
theorem d7 : decode yB 7 = .ok (.i2b, 1) := by decide +kernel
theorem d8 : decode yB 8 = .ok (.ireturn, 1) := by decide +kernel
def site : List Cond := []
def tab : Cond := tabOf yN yB 2 (some .byte) site
def P (d : Addr) (B : Cell) (args : Array Value) (s : State) : Prop := args = #[.ref d, .int (Int32.ofNat B.slots.size)] ∧ Arr .byte d B s
def E (r : Option Value) (s u : State) : Prop := XT.PureE (some (.int 0)) r s u
/-- an array as long as the number of chars: LATIN1 -/
theorem law (l : Launch) (d : Addr) (B : Cell) : Law l yN 2 2 0 0 yB 2 (some .byte) site (P d B) E [] 0 0 := by
  refine Law.of_walk (plainFor_of_name (by decide +kernel)) (by decide +kernel) (by decide +kernel) (by decide) (fun _ _ h => by rw [h.1]; rfl) (fun _ U U' hal hh h => ⟨h.1, h.2.mv hal hh⟩) (fun r U U' V V' h1 hal h2 h => XT.PureE.mv r U U' V V' h1 hal h2 h) ?_
  intro p e s m args below meth c s₁ X0 hexec hbytes hml hret hlk hnm hown hh0 W hP
  obtain ⟨rfl, hB⟩ := hP
  have hB0 := hB.mv X0.warmed.alike hh0
  have c1 : Steps p.tables e below (s₁.setTop (entryFrame m #[.ref d, .int (Int32.ofNat B.slots.size)] 2)) (s₁.setTop (mkF m 0 #[.val (.ref d), .val (.int (Int32.ofNat B.slots.size))] [])) := entry rfl
  have c2 : Steps p.tables e below (s₁.setTop (entryFrame m #[.ref d, .int (Int32.ofNat B.slots.size)] 2)) (s₁.setTop (mkF m 2 #[.val (.ref d), .val (.int (Int32.ofNat B.slots.size))] [.ref d, .int (Int32.ofNat B.slots.size)])) := c1.trans (by
    refine XS.iloadN X0.here hexec rfl (hb hbytes d0) rfl ?_
    refine XS.aloadN X0.here hexec rfl (hb hbytes d1) rfl rfl ?_
    exact Steps.refl _)
  have c3 : Steps p.tables e below (s₁.setTop (entryFrame m #[.ref d, .int (Int32.ofNat B.slots.size)] 2)) (s₁.setTop (mkF m 8 #[.val (.ref d), .val (.int (Int32.ofNat B.slots.size))] [.int (lo8 (ushr (Int32.ofNat B.slots.size - Int32.ofNat B.slots.size) 31))])) := c2.trans (by
    refine X0.alen hexec hB0 rfl rfl (hb hbytes d2) ?_
    refine XS.isub X0.here hexec rfl (hb hbytes d3) rfl ?_
    refine bipushV X0.here hexec rfl 31 (hb hbytes d4) (by decide) ?_
    refine iushr X0.here hexec rfl (hb hbytes d6) rfl ?_
    refine i2b X0.here hexec rfl (hb hbytes d7) rfl ?_
    exact Steps.refl _)
  have e0 : lo8 (ushr (Int32.ofNat B.slots.size - Int32.ofNat B.slots.size) 31) = 0 := by rw [Int32.sub_self]; decide
  rw [e0] at c3
  exact ⟨s₁, some (.int 0), _, _, _, X0, rfl, rfl, rfl, (fun h => by cases h), ⟨rfl, hh0⟩, fun fs hl => c3.trans (X0.ireturnOut hexec hret rfl (Or.inr (Or.inr (Or.inl rfl))) (hb hbytes d8) hl)⟩
end CodL
/-- the String at a is Latin-1 over a new byte[] (the heap's one new cell): the low bytes of the len chars of A from o on; every cell but a is kept -/
def Got (a : Addr) (D : Cell) (fV fC : Field) (A : Cell) (o len : Nat) (r : Option Value) (s u : State) : Prop := r = none ∧ ∃ D' V : Cell, Blank "java/lang/String" a D' u ∧ Same D D' [fV.slot, fC.slot] ∧ D'.slots[fV.slot]? = some (.ref s.heap.size) ∧ D'.slots[fC.slot]? = some (.int 0) ∧ Arr .byte s.heap.size V u ∧ V.vm = .none ∧ u.vm.findClass "[B" = some V.cls ∧ V.slots.size = len ∧ (∀ j, j < len → V.slots[j]? = some (.int (lo8 (cv A (o + j))))) ∧ (∀ (y : Addr) (c : Cell), y ≠ a → s.heap[y]? = some c → u.heap[y]? = some c) ∧ u.heap.size = s.heap.size + 1
theorem Got.mv {a : Addr} {D A : Cell} {fV fC : Field} {o len : Nat} : ∀ r (U U' V V' : State), U'.heap = U.heap → V.vm.Alike V'.vm → V'.heap = V.heap → Got a D fV fC A o len r U V → Got a D fV fC A o len r U' V' :=
  fun r U U' V V' h1 hal h2 ⟨e0, D', X, a1, a2, a3, a4, a5, a6, a7, a8, a9, a10, a11⟩ => ⟨e0, D', X, a1.mv hal h2, a2, by rw [h1]; exact a3, a4, by rw [h1]; exact a5.mv hal h2, a6, by rw [hal.findClass]; exact a7, a8, a9, by rw [h1, h2]; exact a10, by rw [h1, h2]; exact a11⟩
namespace New4
def yN : MethodName := ⟨"java/lang/String", "<init>", "([CIILjava/lang/Void;)V"⟩
abbrev yB : ByteArray := jdk_42_method_149_code
theorem d0 : decode yB 0 = .ok (.aload_n 0, 1) := by decide +kernel
theorem d1 : decode yB 1 = .ok (.invokespecial 1, 3) := by decide +kernel
theorem d4 : decode yB 4 = .ok (.iload_n 3, 1) := by decide +kernel
theorem d5 : decode yB 5 = .ok (.ifCond (.ne) 22, 3) := by decide +kernel
theorem d27 : decode yB 27 = .ok (.getstatic 38, 3) := by decide +kernel
theorem d30 : decode yB 30 = .ok (.ifCond (.eq) 28, 3) := by decide +kernel
theorem d33 : decode yB 33 = .ok (.aload_n 1, 1) := by decide +kernel
theorem d34 : decode yB 34 = .ok (.iload_n 2, 1) := by decide +kernel
theorem d35 : decode yB 35 = .ok (.iload_n 3, 1) := by decide +kernel
theorem d36 : decode yB 36 = .ok (.invokestatic 177, 3) := by decide +kernel
theorem d39 : decode yB 39 = .ok (.astore 5, 2) := by decide +kernel
theorem d41 : decode yB 41 = .ok (.aload_n 0, 1) := by decide +kernel
theorem d42 : decode yB 42 = .ok (.aload 5, 2) := by decide +kernel
theorem d44 : decode yB 44 = .ok (.iload_n 3, 1) := by decide +kernel
theorem d45 : decode yB 45 = .ok (.invokestatic 47, 3) := by decide +kernel
theorem d48 : decode yB 48 = .ok (.putfield 15, 3) := by decide +kernel
theorem d51 : decode yB 51 = .ok (.aload_n 0, 1) := by decide +kernel
theorem d52 : decode yB 52 = .ok (.aload 5, 2) := by decide +kernel
theorem d54 : decode yB 54 = .ok (.putfield 9, 3) := by decide +kernel
theorem d57 : decode yB 57 = .ok (.return_, 1) := by decide +kernel
def site : List Cond := [.fieldLink "java/lang/String" 38 "java/lang/String" "COMPACT_STRINGS" "Z", Cmp3.tab, CodL.tab, .laysFinal "java/lang/String" "java/lang/String" "value" "[B", .fieldLink "java/lang/String" 9 "java/lang/String" "value" "[B", .laysFinal "java/lang/String" "java/lang/String" "coder" "B", .fieldLink "java/lang/String" 15 "java/lang/String" "coder" "B"] ++ objW "java/lang/String" 1 ++ staticW "java/lang/String" 177 Cmp3.yN ++ staticW "java/lang/String" 47 CodL.yN
def tab : Cond := tabOf yN yB 6 none site
def P (a : Addr) (D : Cell) (fV fC : Field) (b : Addr) (A : Cell) (z : Int32) (o len : Nat) (args : Array Value) (s : State) : Prop := args = #[.ref a, .ref b, .int (Int32.ofNat o), .int (Int32.ofNat len), .null] ∧ Blank "java/lang/String" a D s ∧ Found "java/lang/String" "value" "[B" fV s ∧ Found "java/lang/String" "coder" "B" fC s ∧ Ch b A s ∧ StaticIs s "java/lang/String" "COMPACT_STRINGS" "Z" (.int z) ∧ ¬ z = 0 ∧ 0 < len ∧ o + len ≤ A.slots.size ∧ len ≤ 536870912 ∧ ∀ i, i < len → ¬ 255 < cv A (o + i)
def E (a : Addr) (D : Cell) (fV fC : Field) (A : Cell) (o len : Nat) (r : Option Value) (s u : State) : Prop := Got a D fV fC A o len r s u
/-- len > 0, no char of the range above 255: a Latin-1 String of their low bytes -/
theorem law (l : Launch) (a : Addr) (D : Cell) (fV fC : Field) (b : Addr) (A : Cell) (z : Int32) (o len : Nat) : Law l yN 5 4 2 35 yB 6 none site (P a D fV fC b A z o len) (E a D fV fC A o len) [⟨a, fC.slot⟩, ⟨a, fV.slot⟩] 1 len := by
  refine Law.of_walk (plainFor_of_name (by decide +kernel)) (by decide +kernel) (by decide +kernel) (by decide) (fun _ _ h => by rw [h.1]; rfl) (fun _ U U' hal hh h => ⟨h.1, h.2.1.mv hal hh, h.2.2.1.al hal, h.2.2.2.1.al hal, h.2.2.2.2.1.mv hal hh, h.2.2.2.2.2.1.there hal hh, h.2.2.2.2.2.2⟩) (fun r U U' V V' h1 hal h2 h => Got.mv r U U' V V' h1 hal h2 h) ?_
  intro p e s m args below meth c s₁ X0 hexec hbytes hml hret hlk hnm hown hh0 W hP
  obtain ⟨rfl, hB, f1, f2, hA, s1, hz, l0, l1, l2, hp⟩ := hP
  have a31 := hA.1.2.2.2
  have c1 : Steps p.tables e below (s₁.setTop (entryFrame m #[.ref a, .ref b, .int (Int32.ofNat o), .int (Int32.ofNat len), .null] 6)) (s₁.setTop (mkF m 0 #[.val (.ref a), .val (.ref b), .val (.int (Int32.ofNat o)), .val (.int (Int32.ofNat len)), .val .null, .unset] [])) := entry rfl
  have c2 : Steps p.tables e below (s₁.setTop (entryFrame m #[.ref a, .ref b, .int (Int32.ofNat o), .int (Int32.ofNat len), .null] 6)) (s₁.setTop (mkF m 1 #[.val (.ref a), .val (.ref b), .val (.int (Int32.ofNat o)), .val (.int (Int32.ofNat len)), .val .null, .unset] [.ref a])) := c1.trans (by
    refine XS.aloadN X0.here hexec rfl (hb hbytes d0) rfl rfl ?_
    exact Steps.refl _)
  obtain ⟨T3, X3, q3, st3⟩ := X0.oinit hexec hown (wks W (objW "java/lang/String" 1)) (g := (mkF m 1 #[.val (.ref a), .val (.ref b), .val (.int (Int32.ofNat o)), .val (.int (Int32.ofNat len)), .val .null, .unset] [.ref a])) rfl (by rw [hml]; rfl) (rest := []) rfl (hb hbytes d1) (W := 0) (by show 2 * 0 + 0 ≤ _; decide) (Nat.le_of_ble_eq_true rfl) (Nat.le_of_ble_eq_true rfl)
  have hh3 := q3.trans hh0
  have c4 : Steps p.tables e below (s₁.setTop (entryFrame m #[.ref a, .ref b, .int (Int32.ofNat o), .int (Int32.ofNat len), .null] 6)) (T3.setTop (mkF m 27 #[.val (.ref a), .val (.ref b), .val (.int (Int32.ofNat o)), .val (.int (Int32.ofNat len)), .val .null, .unset] [])) := (c2.trans (st3 _ (Steps.refl _))).trans (by
    refine XS.iloadN X3.here hexec rfl (hb hbytes d4) rfl ?_
    refine XS.ifYes X3.here hexec rfl (pc0 := 5) rfl (hb hbytes d5) rfl (i0_ne_t (nz32 (by omega) l0)) (by decide) rfl ?_
    exact Steps.refl _)
  obtain ⟨T5, X5, q5, st5⟩ := X3.sget hexec hown (wk W (.fieldLink "java/lang/String" 38 "java/lang/String" "COMPACT_STRINGS" "Z")) s1 (fun _ _ h => by rw [hh3]; exact h) (g := (mkF m 27 #[.val (.ref a), .val (.ref b), .val (.int (Int32.ofNat o)), .val (.int (Int32.ofNat len)), .val .null, .unset] [])) rfl (hb hbytes d27)
  have hh5 := q5.trans hh3
  have c6 : Steps p.tables e below (s₁.setTop (entryFrame m #[.ref a, .ref b, .int (Int32.ofNat o), .int (Int32.ofNat len), .null] 6)) (T5.setTop (mkF m 30 #[.val (.ref a), .val (.ref b), .val (.int (Int32.ofNat o)), .val (.int (Int32.ofNat len)), .val .null, .unset] [.int z])) := c4.trans (st5 _ (Steps.refl _))
  have c7 : Steps p.tables e below (s₁.setTop (entryFrame m #[.ref a, .ref b, .int (Int32.ofNat o), .int (Int32.ofNat len), .null] 6)) (T5.setTop (mkF m 36 #[.val (.ref a), .val (.ref b), .val (.int (Int32.ofNat o)), .val (.int (Int32.ofNat len)), .val .null, .unset] [.int (Int32.ofNat len), .int (Int32.ofNat o), .ref b])) := c6.trans (by
    refine XS.ifNo X5.here hexec rfl (hb hbytes d30) rfl (i0_eq_f hz) ?_
    refine XS.aloadN X5.here hexec rfl (hb hbytes d33) rfl rfl ?_
    refine XS.iloadN X5.here hexec rfl (hb hbytes d34) rfl ?_
    refine XS.iloadN X5.here hexec rfl (hb hbytes d35) rfl ?_
    exact Steps.refl _)
  obtain ⟨v8, T8, X8, E8, g8⟩ := X5.callS hexec (Cmp3.law l b A o len) hown (wks W (staticW "java/lang/String" 177 Cmp3.yN)) (wk W Cmp3.tab) (W := 0) (Nat.le_of_ble_eq_true rfl) (Nat.le_of_ble_eq_true rfl) (Nat.le_refl _) (by show 0 + len ≤ len; omega) (g := (mkF m 36 #[.val (.ref a), .val (.ref b), .val (.int (Int32.ofNat o)), .val (.int (Int32.ofNat len)), .val .null, .unset] [.int (Int32.ofNat len), .int (Int32.ofNat o), .ref b])) rfl (by rw [hml]; rfl) c7 (argsL := [.ref b, .int (Int32.ofNat o), .int (Int32.ofNat len)]) (rest := []) rfl rfl (by show 2 * 0 + 0 ≤ _; decide) (hb hbytes d36) (⟨rfl, hA.mv X5.warmed.alike hh5, l1, l2, hp⟩)
  obtain ⟨e8, z8⟩ := E8
  obtain ⟨rfl, N, n1, n2, n3, n4, n5, n6⟩ := NewArr.mv _ T5 s _ _ hh5.symm (Vm.Alike.refl _) rfl e8
  rw [hh5] at z8
  have hB1 := hB.keep X8.warmed.alike (n6 _ _ hB.1)
  have hne : s.heap.size ≠ a := (Nat.ne_of_lt (Array.getElem?_eq_some_iff.mp hB.1).1).symm
  have c9 : Steps p.tables e below (s₁.setTop (entryFrame m #[.ref a, .ref b, .int (Int32.ofNat o), .int (Int32.ofNat len), .null] 6)) (T8.setTop (mkF m 39 #[.val (.ref a), .val (.ref b), .val (.int (Int32.ofNat o)), .val (.int (Int32.ofNat len)), .val .null, .unset] [.ref s.heap.size])) := g8
  have c10 : Steps p.tables e below (s₁.setTop (entryFrame m #[.ref a, .ref b, .int (Int32.ofNat o), .int (Int32.ofNat len), .null] 6)) (T8.setTop (mkF m 45 #[.val (.ref a), .val (.ref b), .val (.int (Int32.ofNat o)), .val (.int (Int32.ofNat len)), .val .null, .val (.ref s.heap.size)] [.int (Int32.ofNat N.slots.size), .ref s.heap.size, .ref a])) := by
    have hc : Steps p.tables e below (s₁.setTop (entryFrame m #[.ref a, .ref b, .int (Int32.ofNat o), .int (Int32.ofNat len), .null] 6)) (T8.setTop (mkF m 45 #[.val (.ref a), .val (.ref b), .val (.int (Int32.ofNat o)), .val (.int (Int32.ofNat len)), .val .null, .val (.ref s.heap.size)] [.int (Int32.ofNat len), .ref s.heap.size, .ref a])) := c9.trans (by
      refine XS.astore X8.here hexec rfl (hb hbytes d39) rfl rfl rfl ?_
      refine XS.aloadN X8.here hexec rfl (hb hbytes d41) rfl rfl ?_
      refine XS.aload X8.here hexec rfl (hb hbytes d42) rfl rfl ?_
      refine XS.iloadN X8.here hexec rfl (hb hbytes d44) rfl ?_
      exact Steps.refl _)
    rw [n4]; exact hc
  obtain ⟨v11, T11, X11, E11, g11⟩ := X8.callS hexec (CodL.law l s.heap.size N) hown (wks W (staticW "java/lang/String" 47 CodL.yN)) (wk W CodL.tab) (W := 1) (Nat.le_of_ble_eq_true rfl) (Nat.le_of_ble_eq_true rfl) (Nat.le_refl _) (by show 0 + len + 0 ≤ len; omega) (g := (mkF m 45 #[.val (.ref a), .val (.ref b), .val (.int (Int32.ofNat o)), .val (.int (Int32.ofNat len)), .val .null, .val (.ref s.heap.size)] [.int (Int32.ofNat N.slots.size), .ref s.heap.size, .ref a])) rfl (by rw [hml]; rfl) c10 (argsL := [.ref s.heap.size, .int (Int32.ofNat N.slots.size)]) (rest := [.ref a]) rfl rfl (by show 2 * 0 + (1 + 0) ≤ _; decide) (hb hbytes d45) (⟨rfl, n1⟩)
  obtain ⟨rfl, q11⟩ := E11
  have hB11 := hB1.mv (X8.warmed.alike.symm.trans X11.warmed.alike) q11
  have c12 : Steps p.tables e below (s₁.setTop (entryFrame m #[.ref a, .ref b, .int (Int32.ofNat o), .int (Int32.ofNat len), .null] 6)) (T11.setTop (mkF m 48 #[.val (.ref a), .val (.ref b), .val (.int (Int32.ofNat o)), .val (.int (Int32.ofNat len)), .val .null, .val (.ref s.heap.size)] [.int 0, .ref a])) := g11
  obtain ⟨T13, X13, p13, bl13, sl13, st13⟩ := X11.finit hexec hown (wk W (.fieldLink "java/lang/String" 15 "java/lang/String" "coder" "B")) (Or.inr ⟨_, (wk W (.laysFinal "java/lang/String" "java/lang/String" "coder" "B"))⟩) (Or.inl ⟨rfl, hnm⟩) f2 (Or.inl rfl) hB11 (t := .byte) (by decide +kernel) rfl (g := (mkF m 48 #[.val (.ref a), .val (.ref b), .val (.int (Int32.ofNat o)), .val (.int (Int32.ofNat len)), .val .null, .val (.ref s.heap.size)] [.int 0, .ref a])) rfl (rest := []) rfl (hb hbytes d48)
  have c14 : Steps p.tables e below (s₁.setTop (entryFrame m #[.ref a, .ref b, .int (Int32.ofNat o), .int (Int32.ofNat len), .null] 6)) (T13.setTop (mkF m 54 #[.val (.ref a), .val (.ref b), .val (.int (Int32.ofNat o)), .val (.int (Int32.ofNat len)), .val .null, .val (.ref s.heap.size)] [.ref s.heap.size, .ref a])) := (c12.trans (st13 _ (Steps.refl _))).trans (by
    refine XS.aloadN X13.here hexec rfl (hb hbytes d51) rfl rfl ?_
    refine XS.aload X13.here hexec rfl (hb hbytes d52) rfl rfl ?_
    exact Steps.refl _)
  obtain ⟨T15, X15, p15, bl15, sl15, st15⟩ := X13.finit hexec hown (wk W (.fieldLink "java/lang/String" 9 "java/lang/String" "value" "[B")) (Or.inr ⟨_, (wk W (.laysFinal "java/lang/String" "java/lang/String" "value" "[B"))⟩) (Or.inl ⟨rfl, hnm⟩) f1 (Or.inl rfl) bl13 (t := (.array .byte)) (by decide +kernel) rfl (g := (mkF m 54 #[.val (.ref a), .val (.ref b), .val (.int (Int32.ofNat o)), .val (.int (Int32.ofNat len)), .val .null, .val (.ref s.heap.size)] [.ref s.heap.size, .ref a])) rfl (rest := []) rfl (hb hbytes d54)
  have c16 : Steps p.tables e below (s₁.setTop (entryFrame m #[.ref a, .ref b, .int (Int32.ofNat o), .int (Int32.ofNat len), .null] 6)) (T15.setTop (mkF m 57 #[.val (.ref a), .val (.ref b), .val (.int (Int32.ofNat o)), .val (.int (Int32.ofNat len)), .val .null, .val (.ref s.heap.size)] [])) := c14.trans (st15 _ (Steps.refl _))
  have ap := apart (Or.inr ⟨_, (wk W (.laysFinal "java/lang/String" "java/lang/String" "value" "[B"))⟩) (Or.inr ⟨_, (wk W (.laysFinal "java/lang/String" "java/lang/String" "coder" "B"))⟩) f1 f2 (t₁ := .array .byte) (t₂ := .byte) (by decide +kernel) (by decide +kernel) (by decide)
  have al := X8.warmed.alike.symm.trans X15.warmed.alike
  have n7 : T11.heap[s.heap.size]? = some N := by rw [q11]; exact n1.1
  exact ⟨T15, none, _, _, _, X15, by simp, rfl, by omega, (fun _ => rfl), ⟨rfl, _, N, bl15, ((Same.refl D _).set _ (by simp)).set _ (by simp), sl15, (Cell.slots_setSlot_ne _ ap).trans sl13, n1.keep al (p15.other hne (p13.other hne n7)), n2, by rw [al.findClass]; exact n3, n4, n5, fun y c h1 h2 => p15.other h1 (p13.other h1 (by rw [q11]; exact n6 y c h2)), by rw [p15.2.2, p13.2.2, q11]; exact z8⟩, fun fs hl => c16.trans (X15.returnOut hexec hret (hb hbytes d57) hl)⟩
end New4
namespace New1
def yN : MethodName := ⟨"java/lang/String", "<init>", "([C)V"⟩
abbrev yB : ByteArray := jdk_42_method_3_code
theorem d0 : decode yB 0 = .ok (.aload_n 0, 1) := by decide +kernel
theorem d1 : decode yB 1 = .ok (.aload_n 1, 1) := by decide +kernel
theorem d2 : decode yB 2 = .ok (.iconst 0, 1) := by decide +kernel
theorem d3 : decode yB 3 = .ok (.aload_n 1, 1) := by decide +kernel
theorem d4 : decode yB 4 = .ok (.arraylength, 1) := by decide +kernel
theorem d5 : decode yB 5 = .ok (.aconst_null, 1) := by decide +kernel
theorem d6 : decode yB 6 = .ok (.invokespecial 27, 3) := by decide +kernel
theorem d9 : decode yB 9 = .ok (.return_, 1) := by decide +kernel
def site : List Cond := [New4.tab] ++ initW "java/lang/String" 27 New4.yN
def tab : Cond := tabOf yN yB 2 none site
def P (a : Addr) (D : Cell) (fV fC : Field) (b : Addr) (A : Cell) (z : Int32) (args : Array Value) (s : State) : Prop := args = #[.ref a, .ref b] ∧ Blank "java/lang/String" a D s ∧ Found "java/lang/String" "value" "[B" fV s ∧ Found "java/lang/String" "coder" "B" fC s ∧ Ch b A s ∧ StaticIs s "java/lang/String" "COMPACT_STRINGS" "Z" (.int z) ∧ ¬ z = 0 ∧ 0 < A.slots.size ∧ A.slots.size ≤ 536870912 ∧ ∀ i, i < A.slots.size → ¬ 255 < cv A i
def E (a : Addr) (D : Cell) (fV fC : Field) (A : Cell) (r : Option Value) (s u : State) : Prop := Got a D fV fC A 0 A.slots.size r s u
/-- new String(chars), not empty, no char above 255: a Latin-1 String of their low bytes -/
theorem law (l : Launch) (a : Addr) (D : Cell) (fV fC : Field) (b : Addr) (A : Cell) (z : Int32) : Law l yN 2 1 3 52 yB 2 none site (P a D fV fC b A z) (E a D fV fC A) [⟨a, fC.slot⟩, ⟨a, fV.slot⟩] 1 A.slots.size := by
  refine Law.of_walk (plainFor_of_name (by decide +kernel)) (by decide +kernel) (by decide +kernel) (by decide) (fun _ _ h => by rw [h.1]; rfl) (fun _ U U' hal hh h => ⟨h.1, h.2.1.mv hal hh, h.2.2.1.al hal, h.2.2.2.1.al hal, h.2.2.2.2.1.mv hal hh, h.2.2.2.2.2.1.there hal hh, h.2.2.2.2.2.2⟩) (fun r U U' V V' h1 hal h2 h => Got.mv r U U' V V' h1 hal h2 h) ?_
  intro p e s m args below meth c s₁ X0 hexec hbytes hml hret hlk hnm hown hh0 W hP
  obtain ⟨rfl, hB, f1, f2, hA, s1, hz, l0, l2, hp⟩ := hP
  have c1 : Steps p.tables e below (s₁.setTop (entryFrame m #[.ref a, .ref b] 2)) (s₁.setTop (mkF m 0 #[.val (.ref a), .val (.ref b)] [])) := entry rfl
  have c2 : Steps p.tables e below (s₁.setTop (entryFrame m #[.ref a, .ref b] 2)) (s₁.setTop (mkF m 6 #[.val (.ref a), .val (.ref b)] [.null, .int (Int32.ofNat A.slots.size), .int 0, .ref b, .ref a])) := c1.trans (by
    refine XS.aloadN X0.here hexec rfl (hb hbytes d0) rfl rfl ?_
    refine XS.aloadN X0.here hexec rfl (hb hbytes d1) rfl rfl ?_
    refine iconstV X0.here hexec rfl 0 (hb hbytes d2) (by decide) ?_
    refine XS.aloadN X0.here hexec rfl (hb hbytes d3) rfl rfl ?_
    refine X0.alen hexec (hA.1.mv X0.warmed.alike hh0) rfl rfl (hb hbytes d4) ?_
    refine XS.aconstNull X0.here hexec rfl (hb hbytes d5) ?_
    exact Steps.refl _)
  obtain ⟨v3, T3, X3, E3, g3⟩ := X0.callN hexec (New4.law l a D fV fC b A z 0 A.slots.size) rfl hown (wks W (initW "java/lang/String" 27 New4.yN)) (W New4.tab (by simp only [site, List.mem_cons, List.mem_append, true_or, or_true])) (W := 0) (Nat.le_of_ble_eq_true rfl) (Nat.le_of_ble_eq_true rfl) (Nat.le_refl _) (by show 0 + A.slots.size ≤ A.slots.size; omega) (g := (mkF m 6 #[.val (.ref a), .val (.ref b)] [.null, .int (Int32.ofNat A.slots.size), .int (Int32.ofNat 0), .ref b, .ref a])) rfl (by rw [hml]; rfl) c2 (argsL := [.ref b, .int (Int32.ofNat 0), .int (Int32.ofNat A.slots.size), .null]) (rest := []) rfl rfl (by show 2 * 0 + 0 ≤ _; decide) (hb hbytes d6) (⟨rfl, hB.mv X0.warmed.alike hh0, f1.al X0.warmed.alike, f2.al X0.warmed.alike, hA.mv X0.warmed.alike hh0, s1.there X0.warmed.alike hh0, hz, l0, by omega, l2, fun i hi => by rw [Nat.zero_add]; exact hp i hi⟩)
  have e0 := Got.mv _ s₁ s _ _ hh0.symm (Vm.Alike.refl _) rfl E3
  obtain rfl := e0.1
  have c4 : Steps p.tables e below (s₁.setTop (entryFrame m #[.ref a, .ref b] 2)) (T3.setTop (mkF m 9 #[.val (.ref a), .val (.ref b)] [])) := g3
  exact ⟨T3, none, _, _, _, X3, by simp, rfl, by omega, (fun _ => rfl), e0, fun fs hl => c4.trans (X3.returnOut hexec hret (hb hbytes d9) hl)⟩
theorem pays {l : Launch} {R : Room} {p : Program} {e : Env} {below : List Frame} {s : State} {sargs : Array Value} {len W : Nat} (a : Addr) (D : Cell) (fV fC : Field) (b : Addr) (A : Cell) (z : Int32) (htab : tab.before sargs s = true) (hfr : 4 ≤ R.frames) (hlo : W + 65 ≤ R.locals) :
    Back l R p e below s sargs yN len W (fun A₁ a₁ => A₁.cells + 1 ≤ R.cells ∧ A₁.slots + A.slots.size ≤ R.slots ∧ P a D fV fC b A z a₁ A₁.U) (fun A₁ _ v₁ B₁ => E a D fV fC A v₁ A₁.U B₁.U ∧ B₁.locs = A₁.locs ++ [⟨a, fC.slot⟩, ⟨a, fV.slot⟩] ∧ B₁.cells = A₁.cells + 1 ∧ B₁.slots = A₁.slots + A.slots.size) :=
  (law l a D fV fC b A z).pays htab hfr (by omega)
end New1
end StrChars
namespace StrChars.Road
open Jvm Sem ClassFile Op Lib Jvm.Stand Jvm.Free Jvm.Free.XT
open Jvm.Lib.Cold (StaticIs)
abbrev ST : String := "java/lang/String"
/-- every table word that New1's law asks, flat -/
abbrev words : List Jvm.Cond := [.code New1.yN New1.yB 2 none, .initialized ST, .methodLink ST 27 New4.yN, .instanceMethod New4.yN,
  .code New4.yN New4.yB 6 none, .fieldLink ST 38 ST "COMPACT_STRINGS" "Z", .laysFinal ST ST "value" "[B", .fieldLink ST 9 ST "value" "[B", .laysFinal ST ST "coder" "B", .fieldLink ST 15 ST "coder" "B",
  .methodLink ST 1 Lib.objectInit, .instanceMethod Lib.objectInit, .code Lib.objectInit ⟨#[0xb1]⟩ 1 none, .methodLink ST 177 Cmp3.yN, .static Cmp3.yN, .methodLink ST 47 CodL.yN, .static CodL.yN,
  .code Cmp3.yN Cmp3.yB 6 (some (.array .byte)), .initialized U16, .arrayClass .byte, .methodLink U16 115 Cmp5.yN, .static Cmp5.yN, .code Cmp5.yN Cmp5.yB 7 (some .int), .code CodL.yN CodL.yB 2 (some .byte)]
theorem tab_of {a : Array Value} {s : State} (h : ∀ w ∈ words, w.before a s = true) : New1.tab.before a s = true := by
  have h5 : Cmp5.tab.before a s = true := unparts (wk h (.code Cmp5.yN Cmp5.yB 7 (some .int))) (wks h (.initialized Cmp5.yN.cls :: Cmp5.site))
  have hc : CodL.tab.before a s = true := unparts (wk h (.code CodL.yN CodL.yB 2 (some .byte))) (wks h (.initialized CodL.yN.cls :: CodL.site))
  have q5 : ∀ w ∈ Cmp5.tab :: words, w.before a s = true := fun w hw => (List.mem_cons.mp hw).elim (fun e => e ▸ h5) (h w)
  have h3 : Cmp3.tab.before a s = true := unparts (wk q5 (.code Cmp3.yN Cmp3.yB 6 (some (.array .byte)))) (wks q5 (.initialized Cmp3.yN.cls :: Cmp3.site))
  have q3 : ∀ w ∈ Cmp3.tab :: CodL.tab :: words, w.before a s = true := fun w hw => (List.mem_cons.mp hw).elim (fun e => e ▸ h3) fun hw => (List.mem_cons.mp hw).elim (fun e => e ▸ hc) (h w)
  have h4 : New4.tab.before a s = true := unparts (wk q3 (.code New4.yN New4.yB 6 none)) (wks q3 (.initialized New4.yN.cls :: New4.site))
  have q4 : ∀ w ∈ New4.tab :: words, w.before a s = true := fun w hw => (List.mem_cons.mp hw).elim (fun e => e ▸ h4) (h w)
  exact unparts (wk q4 (.code New1.yN New1.yB 2 none)) (wks q4 (.initialized New1.yN.cls :: New1.site))
/-- the words ride from the start Z to the walk's own state -/
theorem moved {Z s : State} {a0 args : Array Value} (hZ : Z.Warmed39 s.vm) (hw : ∀ d ∈ words, d.before a0 Z = true) : ∀ d ∈ words, d.before args s = true := fun d hd => by
  have q := hw d hd
  have t : ∀ d ∈ words, d = .arrayClass .byte ∨ (d.onTables && d.keepsFace) = true := by decide +kernel
  rcases t d hd with rfl | t
  · exact RoadKit.mvA hZ q
  · exact RoadKit.mv hZ q t
/-- WHAT COMES BACK, over the tables of the start Z: h the heap at the call, h' behind it -/
def Q (Z : State) (x : Addr) (A : Cell) (h : Heap) (v : Option Value) (h' : Heap) (L : List Loc) : Prop := v = none ∧ (∀ y ∈ L, y.base = x) ∧ RoadKit.Keep h h' [x] ∧ h'.size = h.size + 1 ∧ RoadKit.Exa Z h' x ST ∧ RoadKit.Fld Z h' x ST "value" "[B" (.ref h.size) ∧ RoadKit.Fld Z h' x ST "coder" "B" (.int 0) ∧
  (∃ V : Cell, RoadKit.Arr Z h' h.size V .byte ∧ V.vm = .none ∧ Z.vm.findClass "[B" = some V.cls ∧ V.slots.size = A.slots.size ∧ ∀ j, j < A.slots.size → V.slots[j]? = some (.int (lo8 (cv A j)))) ∧
  ∀ (O n d : String) (w : Value), RoadKit.Fld Z h x O n d w → RoadKit.slotOf Z O n d ≠ RoadKit.slotOf Z ST "value" "[B" → RoadKit.slotOf Z O n d ≠ RoadKit.slotOf Z ST "coder" "B" → RoadKit.Fld Z h' x O n d w
/-- **new String(chars) AT A CALL, IN THE ROAD'S FORM**: for specialBack behind newO: x the fresh String, b the char[] with the cell A -/
theorem back {p : Program} {l : Launch} {e : Env} {R : Room} {s : State} {args : Array Value} {below : List Frame} {len W : Nat} {Z : State} {a0 : Array Value} {h : Heap} (hZ : Z.Warmed39 s.vm) (hw : ∀ d ∈ words, d.before a0 Z = true) {kI : Nat} (wi : (Jvm.Cond.instantiable ST kI).before a0 Z = true)
    {x b : Addr} {A : Cell} {z : Int32} {v0 c0 : Value} (E : RoadKit.Exa Z h x ST) (V : RoadKit.Fld Z h x ST "value" "[B" v0) (C : RoadKit.Fld Z h x ST "coder" "B" c0) (K : RoadKit.Arr Z h b A .char) (hty : Typed .char A) (S : RoadKit.Sta Z h ST "COMPACT_STRINGS" "Z" (.int z)) (hz : ¬ z = 0)
    (l0 : 0 < A.slots.size) (l2 : A.slots.size ≤ 536870912) (hp : ∀ i, i < A.slots.size → ¬ 255 < cv A i) (hfr : 4 ≤ R.frames) (hlo : W + 65 ≤ R.locals) :
    Back l R p e below s args New1.yN len W (fun P a => a = #[.ref x, .ref b] ∧ P.U.heap = h ∧ P.cells + 1 ≤ R.cells ∧ P.slots + A.slots.size ≤ R.slots)
      (fun P _ v B => ∃ L, Q Z x A h v B.U.heap L ∧ B.locs = P.locs ++ L ∧ B.cells = P.cells + 1 ∧ B.slots = P.slots + A.slots.size) := by
  intro m meth c P g ig mk a X hg hsize hdg hW hn hp'
  obtain ⟨rfl, rfl, r1, r2⟩ := hp'
  have al : Z.vm.Alike P.U.vm := hZ.alike.trans X.warmed.alike
  obtain ⟨D, cfV, kV, iV, fV, hD, gV, stV, knV, obV, asV, slV⟩ := id V
  obtain ⟨D', cfC, kC, iC, fC, hD', gC, stC, -, -, asC, slC⟩ := id C
  cases hD.symm.trans hD'
  obtain ⟨D2, kD, e1, e2, e3, e4, e5⟩ := id E
  cases hD.symm.trans e1
  obtain ⟨c2, k2, i1, i2, i3, -⟩ := Cond.instantiable_spec wi
  cases e2.symm.trans i1
  cases e3.symm.trans i2
  obtain ⟨kU, u1, u2⟩ := al.2.2 _ _ e3
  have hB : Blank ST x D P.U := ⟨hD, ⟨knV, fun q hq => by rw [hq] at obV; cases obV⟩, by rw [al.findClass]; exact e2, kU, u1, by rw [u2]; exact i3, by rw [u2]; exact e5 i3⟩
  have F1 : Found ST "value" "[B" fV P.U := ⟨SBG.found_only al ⟨cfV, kV, iV, gV⟩, stV⟩
  have F2 : Found ST "coder" "B" fC P.U := ⟨SBG.found_only al ⟨cfC, kC, iC, gC⟩, stC⟩
  have hA : Ch b A P.U := ⟨⟨K.1, State.isArrayOf_alike al K.2.1, K.2.2, by omega⟩, hty⟩
  have hS : StaticIs P.U ST "COMPACT_STRINGS" "Z" (.int z) := by
    obtain ⟨cfS, iS, kS, fS, st, cS, t1, t2, t3, t4, t5, t6, t7⟩ := S
    exact StaticIs.there (s := { Z with heap := P.U.heap }) ⟨cfS, iS, kS, fS, st, cS, t1, t2, t3, t4, t5, (fun q => by rw [q] at t6; cases t6), t7⟩ al rfl
  obtain ⟨v, B, X', ⟨⟨hv, E', V', q1, q2, q3, q4, q5, q6, q7, q8, q9, q10, q11⟩, hl, hc, hs⟩, st⟩ := New1.pays x D fV fC b A z (tab_of (moved hZ hw)) hfr hlo m meth c P g ig mk _ X hg hsize hdg hW hn ⟨r1, r2, rfl, hB, F1, F2, hA, hS, hz, l0, l2, hp⟩
  have al' : Z.vm.Alike B.U.vm := hZ.alike.trans X'.warmed.alike
  have hsz : E'.slots.size = D.slots.size := by
    obtain ⟨-, -, -, kB, w1, w2, w3⟩ := q1
    obtain ⟨kB', y1, y2⟩ := al'.2.2 _ _ e3
    rw [q2.2.1] at w1
    cases w1.symm.trans y1
    rw [w3, e5 i3, y2]
  refine ⟨v, B, X', ⟨_, ⟨hv, ?_, ⟨by omega, fun y cy hy hn' => q10 y cy (by simpa using hn') hy, fun y cy hy => ?_⟩, q11, ⟨E', _, q1.1, by rw [q2.2.1]; exact e2, by rw [q2.2.1]; exact e3, by rw [q2.1]; exact obV, fun _ => by rw [hsz]; exact e5 i3⟩,
    ⟨E', cfV, kV, iV, fV, q1.1, gV, stV, by rw [q2.1]; exact knV, by rw [q2.1]; exact obV, by rw [q2.2.1]; exact asV, q3⟩, ⟨E', cfC, kC, iC, fC, q1.1, gC, stC, by rw [q2.1]; exact knV, by rw [q2.1]; exact obV, by rw [q2.2.1]; exact asC, q4⟩,
    ⟨V', ⟨q5.1, State.isArrayOf_alike al'.symm q5.2.1, q5.2.2.1⟩, q6, by rw [← al'.findClass]; exact q7, q8, fun j hj => by have := q9 j hj; rwa [Nat.zero_add] at this⟩, fun O n d w F n1 n2 => ?_⟩, hl, hc, hs⟩, st⟩
  · intro y hy
    simp only [List.mem_cons, List.not_mem_nil, or_false] at hy
    rcases hy with rfl | rfl <;> rfl
  · by_cases q : y = x
    · subst q
      cases hD.symm.trans hy
      exact ⟨E', q1.1, q2.2.1, q2.1, hsz⟩
    · exact ⟨cy, q10 y cy q hy, rfl, rfl, rfl⟩
  · obtain ⟨D3, cf, k, i, f, g1, g2, g3, g4, g5, g6, g7⟩ := F
    cases hD.symm.trans g1
    simp only [RoadKit.slotOf, g2, gV, gC, Option.map_some, Option.getD_some] at n1 n2
    exact ⟨E', cf, k, i, f, q1.1, g2, g3, by rw [q2.1]; exact g4, by rw [q2.1]; exact g5, by rw [q2.2.1]; exact g6, by rw [q2.2.2 f.slot (by simp [n1, n2])]; exact g7⟩
end StrChars.Road
namespace StrChars.Road
open Jvm Sem ClassFile Op Lib Jvm.Stand Jvm.Free Jvm.Free.XT
/-- WHAT COMES BACK, the byte[] as a list of values -/
def QA (Z : State) (x : Addr) (zn : Int32) (cs : List Int32) (h : Heap) (v : Option Value) (h' : Heap) (L : List Loc) : Prop := v = none ∧ (∀ y ∈ L, y.base = x) ∧ RoadKit.Keep h h' [x] ∧ h'.size = h.size + 1 ∧ RoadKit.Exa Z h' x ST ∧ RoadKit.Fld Z h' x ST "value" "[B" (.ref h.size) ∧ RoadKit.Fld Z h' x ST "coder" "B" (.int 0) ∧
  (∃ kb, Z.vm.findClass "[B" = some kb ∧ RoadKit.Arv Z h' h.size kb .byte zn (cs.map fun c => .int (lo8 c)) (.int 0)) ∧
  ∀ (O n d : String) (w : Value), RoadKit.Fld Z h x O n d w → RoadKit.slotOf Z O n d ≠ RoadKit.slotOf Z ST "value" "[B" → RoadKit.slotOf Z O n d ≠ RoadKit.slotOf Z ST "coder" "B" → RoadKit.Fld Z h' x O n d w
/-- **new String(chars) AT A CALL, THE ARRAYS AS LISTS**: the char[] at b holds cs, not empty, no char above 255 -/
theorem backArv {p : Program} {l : Launch} {e : Env} {R : Room} {s : State} {args : Array Value} {below : List Frame} {len W : Nat} {Z : State} {a0 : Array Value} {h : Heap} (hZ : Z.Warmed39 s.vm) (hw : ∀ d ∈ words, d.before a0 Z = true) {kI : Nat} (wi : (Jvm.Cond.instantiable ST kI).before a0 Z = true)
    {x b : Addr} {k : ClassId} {zn z : Int32} {cs : List Int32} {dv v0 c0 : Value} (E : RoadKit.Exa Z h x ST) (V : RoadKit.Fld Z h x ST "value" "[B" v0) (C : RoadKit.Fld Z h x ST "coder" "B" c0) (K : RoadKit.Arv Z h b k .char zn (cs.map Value.int) dv) (S : RoadKit.Sta Z h ST "COMPACT_STRINGS" "Z" (.int z)) (hz : ¬ z = 0)
    (hlen : zn.toNatClampNeg = cs.length) (h0 : 0 < cs.length) (hbig : cs.length ≤ 536870912) (hall : ∀ c ∈ cs, ¬ 255 < c) (hfr : 4 ≤ R.frames) (hlo : W + 65 ≤ R.locals) :
    Back l R p e below s args New1.yN len W (fun P a => a = #[.ref x, .ref b] ∧ P.U.heap = h ∧ P.cells + 1 ≤ R.cells ∧ P.slots + cs.length ≤ R.slots)
      (fun P _ v B => ∃ L, QA Z x zn cs h v B.U.heap L ∧ B.locs = P.locs ++ L ∧ B.cells = P.cells + 1 ∧ B.slots = P.slots + cs.length) := by
  obtain ⟨A, K1, K2, K3, K4, K5, K6⟩ := K
  have e : A.slots.size = cs.length := K3.trans hlen
  have hat : ∀ (i : Nat) (hi : i < cs.length), A.slots[i]? = some (.int cs[i]) := fun i hi => by rw [K5 i (by omega)]; simp [List.getD_eq_getElem?_getD, hi]
  have hcv : ∀ (i : Nat) (hi : i < cs.length), cv A i = cs[i] := fun i hi => by unfold cv; rw [hat i hi]
  have hty : Typed .char A := fun i v hv => by
    have hi : i < A.slots.size := (Array.getElem?_eq_some_iff.mp hv).1
    have q := K5 i hi
    rw [hv] at q
    rw [Option.some.inj q]
    exact K6 i hi
  refine Back.mono (back hZ hw wi E V C K1 hty S hz (by omega) (by omega) (fun i hi => by rw [hcv i (by omega)]; exact hall _ (List.getElem_mem _)) hfr hlo) (fun P a hp => ⟨hp.1, hp.2.1, hp.2.2.1, by rw [e]; exact hp.2.2.2⟩) (fun P a v B hp hq => ?_)
  obtain ⟨L, ⟨q1, q2, q3, q4, q5, q6, q7, ⟨V', v1, v2, v3, v4, v5⟩, q9⟩, hl, hc, hs⟩ := hq
  refine ⟨L, ⟨q1, q2, q3, q4, q5, q6, q7, ⟨V'.cls, v3, V', v1, rfl, by rw [v4, e, hlen], K4, fun i hi => ?_, fun i hi => ?_⟩, q9⟩, hl, hc, by rw [hs, e]⟩
  · have hi' : i < cs.length := by omega
    rw [v5 i (by omega), hcv i hi']; simp [List.getD_eq_getElem?_getD, hi']
  · have hi' : i < cs.length := by omega
    simp only [List.getD_eq_getElem?_getD, List.getElem?_map, List.getElem?_eq_getElem hi', Option.map_some, Option.getD_some]
    exact fits_lo8 _
end StrChars.Road
namespace StrChars.Road
open Jvm Sem ClassFile Op Lib Jvm.Stand Jvm.Free Jvm.Free.XT
/-- WHAT COMES BACK, in the writer's own shape -/
def QV (Z : State) (x : Addr) (N : Int32) (bs : List Int32) (h : Heap) (n0 : Nat) (v : Option Value) (h' : Heap) (L : List Loc) : Prop := v = none ∧ RoadKit.Fr n0 L ∧ RoadKit.Keep h h' [x] ∧ RoadKit.Exa Z h' x ST ∧ RoadKit.Fld Z h' x ST "coder" "B" (.int 0) ∧
  ∃ (t : Addr) (kb : ClassId), n0 ≤ t ∧ h.size ≤ t ∧ ¬ t = x ∧ RoadKit.Fld Z h' x ST "value" "[B" (.ref t) ∧ RoadKit.Arv Z h' t kb .byte N (bs.map Value.int) (.int 0)
/-- **new String(chars) AT A CALL, FOR THE WRITER**: a char[] of n known ints, each 0 to 255 -/
theorem backV {p : Program} {l : Launch} {e : Env} {R : Room} {s : State} {args : Array Value} {below : List Frame} {len W : Nat} {Z : State} {a0 : Array Value} {h : Heap} (hZ : Z.Warmed39 s.vm) (hw : ∀ d ∈ words, d.before a0 Z = true) {kI : Nat} (wi : (Jvm.Cond.instantiable ST kI).before a0 Z = true)
    {x b : Addr} {kC : ClassId} {cs bs : List Int32} {d v0 c0 : Value} {z N : Int32} {n n0 : Nat} (hx0 : n0 ≤ x) (hh0 : n0 ≤ h.size) (E : RoadKit.Exa Z h x ST) (V : RoadKit.Fld Z h x ST "value" "[B" v0) (C : RoadKit.Fld Z h x ST "coder" "B" c0) (K : RoadKit.Arv Z h b kC .char N (cs.map Value.int) d) (S : RoadKit.Sta Z h ST "COMPACT_STRINGS" "Z" (.int z)) (hz : ¬ z = 0)
    (hn : cs.length = n) (hN : N = Int32.ofNat n) (l0 : 0 < n) (l2 : n ≤ 4000) (hp : ∀ c ∈ cs, ¬ c < 0 ∧ ¬ (255 : Int32) < c) (hb : bs = cs.map (fun c => c.toInt8.toInt32)) (hfr : 4 ≤ R.frames) (hlo : W + 65 ≤ R.locals) :
    Back l R p e below s args (⟨"java/lang/String", "<init>", "([C)V"⟩ : MethodName) len W (fun P a => a = #[.ref x, .ref b] ∧ P.U.heap = h ∧ P.cells + 1 ≤ R.cells ∧ P.slots + n ≤ R.slots)
      (fun P _ v B => ∃ L, QV Z x N bs h n0 v B.U.heap L ∧ B.locs = P.locs ++ L ∧ B.cells = P.cells + 1 ∧ B.slots = P.slots + n) := by
  subst hn hN hb
  refine Back.mono (backArv hZ hw wi E V C K S hz (n32 (by omega)) l0 (by omega) (fun c hc => (hp c hc).2) hfr hlo) (fun P a hp => hp) (fun P a v B hp hq => ?_)
  obtain ⟨L, ⟨q1, q2, q3, q4, q5, q6, q7, ⟨kb, v1, v2⟩, q9⟩, hl, hc, hs⟩ := hq
  exact ⟨L, ⟨q1, fun y hy => by rw [q2 y hy]; exact hx0, q3, q5, q7, h.size, kb, hh0, Nat.le_refl _, Nat.ne_of_gt E.lt, q6, by rw [List.map_map]; exact v2⟩, hl, hc, hs⟩
end StrChars.Road
end Jvm.Pilot.@@N@@

namespace Jvm.Pilot.@@N@@
open Jvm Jvm.ClassFile Sem Op Lib Jvm.Free Jvm.Stand Jvm.LawKit Jvm.RoadKit Bundle Jvm.Pilot.@@N@@.Jvm.D
/-! A walk by continuations: own_Go says that from here the body runs to an end that P allows. -/
def own_Go (p : Program) (e : Env) (below : List Frame) (P : Outcome → State → Prop) (T : State) (g : JFrame) : Prop :=
  ∃ s₂ o, Steps p.tables e below (T.setTop g) s₂ ∧ s₂.status = .running ∧ Ended s₂ below o ∧ P o s₂
abbrev own_End (s : State) (Q : Option Value → Heap → List Loc → Prop) (C S : Nat) : Outcome → State → Prop := fun o s₂ => ∃ v L, o = .returned v ∧ Q v s₂.heap L ∧ FrameEnd s o s₂ L C S
theorem own_pc {m : MethodId} {pc : Nat} {Ls : Array Slot} {st : List Value} {off : Int} (h : 0 ≤ (pc : Int) + off) : 0 ≤ ((mkF m pc Ls st).pc : Int) + off := h
section Own
variable {p : Program} {l : Launch} {e : Env} {R : Room} {s : State} {m : MethodId} {args : Array Value} {below : List Frame} {meth : Method} {c : Code} {T T' : State} {locs : List Loc} {cells slots : Nat} {P : Outcome → State → Prop} {g g' : JFrame} {Q : Option Value → Heap → List Loc → Prop} {C S : Nat}
theorem own_st (h : ∀ t, Steps p.tables e below (T'.setTop g') t → Steps p.tables e below (T.setTop g) t) (k : own_Go p e below P T' g') : own_Go p e below P T g := by
  obtain ⟨s₂, o, h1, r⟩ := k
  exact ⟨s₂, o, h _ h1, r⟩
theorem own_entry (q : g = g') (k : own_Go p e below P T g') : ∃ s₂ o, Steps p.tables e below (T.setTop g) s₂ ∧ s₂.status = .running ∧ Ended s₂ below o ∧ P o s₂ := by
  subst q
  exact k
theorem own_join {α : Type} {F : α → Prop} {g' : α → JFrame} {T' : State} (k : ∀ b, F b → own_Go p e below P T' (g' b)) (j : (∀ b, F b → own_Go p e below P T' (g' b)) → own_Go p e below P T g) : own_Go p e below P T g := j k
theorem own_leave (X : Stand p l e R s m args below meth c T locs cells slots) (hlk : meth.locks = false) {v : Option Value} (hv : meth.sig.returnType = none → v = none)
    (k : ∀ fs, (∀ (f : JFrame) (acts : List Action), f.method = m → f.locked = none → f.entered = [] → (doReturn e (T.setTop f) acts v).1 = T.setFrames fs) → Steps p.tables e below (T.setTop g) (T.setFrames fs))
    (hQ : Q v T.heap locs) (hC : cells ≤ C) (hS : slots ≤ S) : own_Go p e below (own_End s Q C S) T g := by
  obtain ⟨fs, hr, hrun, hended, hW, hsame⟩ := X.leave hv hlk
  exact ⟨_, _, k fs hr, hrun, hended, _, _, rfl, hQ, ⟨_, rfl⟩, hW, hsame.mono hC hS⟩
theorem own_retN (X : Stand p l e R s m args below meth c T locs cells slots) (hx : p.tables.exec = Jvm.exec) (hlk : meth.locks = false) {pc : Nat} {Ls : Array Slot} {z : Int32} {t : FieldType} {rest : List Value} (hret : meth.sig.returnType = some t) (ht : t = .boolean ∨ t = .byte ∨ t = .char ∨ t = .short)
    (hd : decode c.code pc = .ok (.ireturn, 1)) (hQ : Q (some (.int (nar t z))) T.heap locs) (hC : cells ≤ C) (hS : slots ≤ S) : own_Go p e below (own_End s Q C S) T (mkF m pc Ls (.int z :: rest)) :=
  own_leave X hlk (fun h => by rw [hret] at h; cases h) (fun fs hr => retN X hx hret ht hd hr) hQ hC hS
theorem own_retI (X : Stand p l e R s m args below meth c T locs cells slots) (hx : p.tables.exec = Jvm.exec) (hlk : meth.locks = false) {pc : Nat} {Ls : Array Slot} {z : Int32} {rest : List Value} (hret : meth.sig.returnType = some .int)
    (hd : decode c.code pc = .ok (.ireturn, 1)) (hQ : Q (some (.int z)) T.heap locs) (hC : cells ≤ C) (hS : slots ≤ S) : own_Go p e below (own_End s Q C S) T (mkF m pc Ls (.int z :: rest)) :=
  own_leave X hlk (fun h => by rw [hret] at h; cases h) (fun fs hr => retOut X hx hret rfl (Or.inl ⟨rfl, Or.inl rfl, z, rfl⟩) hd hr) hQ hC hS
theorem own_retJ (X : Stand p l e R s m args below meth c T locs cells slots) (hx : p.tables.exec = Jvm.exec) (hlk : meth.locks = false) {pc : Nat} {Ls : Array Slot} {z : Int64} {rest : List Value} (hret : meth.sig.returnType = some .long)
    (hd : decode c.code pc = .ok (.lreturn, 1)) (hQ : Q (some (.long z)) T.heap locs) (hC : cells ≤ C) (hS : slots ≤ S) : own_Go p e below (own_End s Q C S) T (mkF m pc Ls (.long z :: rest)) :=
  own_leave X hlk (fun h => by rw [hret] at h; cases h) (fun fs hr => retOut X hx hret rfl (Or.inr (Or.inl ⟨rfl, rfl, z, rfl⟩)) hd hr) hQ hC hS
theorem own_narrow_ref {t : FieldType} {w : Value} (ht : t.isReference = true) : narrow t w = w := by cases t <;> first | rfl | cases ht
theorem own_retA (X : Stand p l e R s m args below meth c T locs cells slots) (hx : p.tables.exec = Jvm.exec) (hlk : meth.locks = false) {pc : Nat} {Ls : Array Slot} {w : Value} {t : FieldType} {rest : List Value} (hret : meth.sig.returnType = some t) (ht : t.isReference = true) (hw : w.isRef = true)
    (hd : decode c.code pc = .ok (.areturn, 1)) (hQ : Q (some w) T.heap locs) (hC : cells ≤ C) (hS : slots ≤ S) : own_Go p e below (own_End s Q C S) T (mkF m pc Ls (w :: rest)) :=
  own_leave X hlk (fun h => by rw [hret] at h; cases h) (fun fs hr => retOut X hx hret (own_narrow_ref ht) (Or.inr (Or.inr (Or.inr (Or.inr ⟨rfl, ht, hw⟩)))) hd hr) hQ hC hS
theorem own_ret0 (X : Stand p l e R s m args below meth c T locs cells slots) (hx : p.tables.exec = Jvm.exec) (hlk : meth.locks = false) {pc : Nat} {Ls : Array Slot} (hret : meth.sig.returnType = none)
    (hd : decode c.code pc = .ok (.return_, 1)) (hQ : Q none T.heap locs) (hC : cells ≤ C) (hS : slots ≤ S) : own_Go p e below (own_End s Q C S) T (mkF m pc Ls []) :=
  own_leave X hlk (fun _ => rfl) (fun fs hr => X.returnOut hx hret hd hr) hQ hC hS
theorem own_callS (X : Stand p l e R s m args below meth c T locs cells slots) (hx : p.tables.exec = Jvm.exec) {own : String} {index : Nat} {y : MethodName} {bytes : ByteArray} {maxL : Nat} {ret : Option FieldType}
    (hown : s.vm.findClass own = some m.cls) (hlink : (Cond.methodLink own index y).before args s = true) (hstat : (Cond.static y).before args s = true) (hinit : (Cond.initialized y.cls).before args s = true)
    (hcode : (Cond.code y bytes maxL ret).before args s = true) (hy : y.cls ≠ "java/lang/invoke/MethodHandle" ∧ y.cls ≠ "java/lang/invoke/VarHandle")
    {W rc rs : Nat} {as' : Array Value} {h : Heap} {Qc : Option Value → Heap → List Loc → Prop}
    (hK : Back l R p e below s args y 3 W (fun A a => a = as' ∧ A.U.heap = h ∧ A.cells + rc ≤ R.cells ∧ A.slots + rs ≤ R.slots) (fun A _ v B => ∃ L, Qc v B.U.heap L ∧ B.locs = A.locs ++ L ∧ B.cells = A.cells + rc ∧ B.slots = A.slots + rs))
    (hg : g.method = m) (hsize : g.locals.size = c.maxLocals) {argsL rest : List Value} (hlen : ∀ sig, parseMethodDescriptor y.desc = some sig → argsL.length = sig.parameters.length)
    (hstack : g.stack = argsL.reverse ++ rest) (hW : 2 * g.monitorRoom + (rest.map fun v => v.category).sum ≤ W) (hdg : decode c.code g.pc = .ok (.invokestatic index, 3))
    (ha : argsL.toArray = as') (eT : T.heap = h) (hc : cells + rc ≤ R.cells) (hs : slots + rs ≤ R.slots)
    (k : ∀ v T' L, Stand p l e R s m args below meth c T' (locs ++ L) (cells + rc) (slots + rs) → Qc v T'.heap L → own_Go p e below P T' { g with pc := g.pc + 3, stack := v.toList ++ rest }) : own_Go p e below P T g := by
  obtain ⟨v, vm₁, ⟨T', L', k', n'⟩, -, X', ⟨L, hQ, l1, y1, z1⟩, st⟩ := Jvm.LawKit.callS X hx hown hlink hstat hinit hcode hy hK hg hsize hlen hstack hW hdg (fun _ _ => ⟨ha, eT, hc, hs⟩)
  dsimp only [Pt.U, Pt.locs, Pt.cells, Pt.slots] at X' l1 y1 z1 st hQ
  subst l1 y1 z1
  exact own_st st (k v T' L X' hQ)
theorem own_callN (X : Stand p l e R s m args below meth c T locs cells slots) (hx : p.tables.exec = Jvm.exec) {own : String} {index : Nat} {y : MethodName} {bytes : ByteArray} {maxL : Nat} (hy1 : y.name = "<init>")
    (hown : s.vm.findClass own = some m.cls) (hlink : (Cond.methodLink own index y).before args s = true) (hinst : (Cond.instanceMethod y).before args s = true)
    (hcode : (Cond.code y bytes maxL none).before args s = true) (hy : y.cls ≠ "java/lang/invoke/MethodHandle" ∧ y.cls ≠ "java/lang/invoke/VarHandle")
    {W rc rs : Nat} {as' : Array Value} {h : Heap} {Qc : Option Value → Heap → List Loc → Prop}
    (hK : Back l R p e below s args y 3 W (fun A a => a = as' ∧ A.U.heap = h ∧ A.cells + rc ≤ R.cells ∧ A.slots + rs ≤ R.slots) (fun A _ v B => ∃ L, Qc v B.U.heap L ∧ B.locs = A.locs ++ L ∧ B.cells = A.cells + rc ∧ B.slots = A.slots + rs))
    {a : Addr} (hg : g.method = m) (hsize : g.locals.size = c.maxLocals) {argsL rest : List Value} (hlen : ∀ sig, parseMethodDescriptor y.desc = some sig → argsL.length = sig.parameters.length)
    (hstack : g.stack = argsL.reverse ++ .ref a :: rest) (hW : 2 * g.monitorRoom + (rest.map fun v => v.category).sum ≤ W) (hdg : decode c.code g.pc = .ok (.invokespecial index, 3))
    (ha : (Value.ref a :: argsL).toArray = as') (eT : T.heap = h) (hc : cells + rc ≤ R.cells) (hs : slots + rs ≤ R.slots)
    (k : ∀ v T' L, Stand p l e R s m args below meth c T' (locs ++ L) (cells + rc) (slots + rs) → Qc v T'.heap L → own_Go p e below P T' { g with pc := g.pc + 3, stack := v.toList ++ rest }) : own_Go p e below P T g := by
  obtain ⟨v, vm₁, ⟨T', L', k', n'⟩, -, X', ⟨L, hQ, l1, y1, z1⟩, st⟩ := X.specialBack hx hy1 hown hlink hinst hcode hy hK hg hsize (Steps.refl _) hlen hstack hW hdg (fun _ _ => ⟨ha, eT, hc, hs⟩)
  dsimp only [Pt.U, Pt.locs, Pt.cells, Pt.slots] at X' l1 y1 z1 st hQ
  subst l1 y1 z1
  exact own_st (fun t k => st.trans k) (k v T' L X' hQ)
theorem own_callV (X : Stand p l e R s m args below meth c T locs cells slots) (hx : p.tables.exec = Jvm.exec) {own Cn : String} {index : Nat} {y z : MethodName}
    (hown : s.vm.findClass own = some m.cls) (hlink : (Cond.methodLink own index y).before args s = true) (hdecl : (Cond.declares y).before args s = true) (hnf : NotFace s y)
    (hsel : (Cond.selects Cn y z).before args s = true) (hinst : (Cond.instanceMethod z).before args s = true)
    (hy : y.cls ≠ "java/lang/invoke/MethodHandle" ∧ y.cls ≠ "java/lang/invoke/VarHandle")
    {W rc rs : Nat} {as' : Array Value} {h : Heap} {Qc : Option Value → Heap → List Loc → Prop}
    (hK : Back l R p e below s args z 3 W (fun A a => a = as' ∧ A.U.heap = h ∧ A.cells + rc ≤ R.cells ∧ A.slots + rs ≤ R.slots) (fun A _ v B => ∃ L, Qc v B.U.heap L ∧ B.locs = A.locs ++ L ∧ B.cells = A.cells + rc ∧ B.slots = A.slots + rs))
    {a : Addr} {cB : ClassId} (hcB : s.vm.findClass Cn = some cB) (hrecv : IsOf cB T a)
    (hg : g.method = m) (hsize : g.locals.size = c.maxLocals) {argsL rest : List Value} (hlen : ∀ sig, parseMethodDescriptor y.desc = some sig → argsL.length = sig.parameters.length)
    (hstack : g.stack = argsL.reverse ++ .ref a :: rest) (hW : 2 * g.monitorRoom + (rest.map fun v => v.category).sum ≤ W) (hdg : decode c.code g.pc = .ok (.invokevirtual index, 3))
    (ha : (Value.ref a :: argsL).toArray = as') (eT : T.heap = h) (hc : cells + rc ≤ R.cells) (hs : slots + rs ≤ R.slots)
    (k : ∀ v T' L, Stand p l e R s m args below meth c T' (locs ++ L) (cells + rc) (slots + rs) → Qc v T'.heap L → own_Go p e below P T' { g with pc := g.pc + 3, stack := v.toList ++ rest }) : own_Go p e below P T g := by
  obtain ⟨v, vm₁, ⟨T', L', k', n'⟩, -, X', ⟨L, hQ, l1, y1, z1⟩, st⟩ := X.virtualBack hx hown hlink hdecl hnf hsel hinst hy hK hcB hrecv hg hsize (Steps.refl _) hlen hstack hW hdg (fun _ _ => ⟨ha, eT, hc, hs⟩)
  dsimp only [Pt.U, Pt.locs, Pt.cells, Pt.slots] at X' l1 y1 z1 st hQ
  subst l1 y1 z1
  exact own_st (fun t k => st.trans k) (k v T' L X' hQ)
theorem own_callI (X : Stand p l e R s m args below meth c T locs cells slots) (hx : p.tables.exec = Jvm.exec) {own Cn : String} {index count : Nat} {xi y : MethodName}
    (hown : s.vm.findClass own = some m.cls) (hlink : (Cond.methodLink own index xi).before args s = true) (hdecl : (Cond.declares xi).before args s = true)
    (hface : (Cond.interfaceMethod xi.cls xi.cls xi.name xi.desc).before args s = true) (hsel : (Cond.selects Cn xi y).before args s = true) (hinst : (Cond.instanceMethod y).before args s = true)
    (hpub : (Cond.publicMethod y).before args s = true) (hunh : (Cond.unhidden Cn xi.name xi.desc).before args s = true) (hcast : (Cond.castable Cn xi.cls).before args s = true)
    (hy : xi.cls ≠ "java/lang/invoke/MethodHandle" ∧ xi.cls ≠ "java/lang/invoke/VarHandle")
    {W rc rs : Nat} {as' : Array Value} {h : Heap} {Qc : Option Value → Heap → List Loc → Prop}
    (hK : Back l R p e below s args y 5 W (fun A a => a = as' ∧ A.U.heap = h ∧ A.cells + rc ≤ R.cells ∧ A.slots + rs ≤ R.slots) (fun A _ v B => ∃ L, Qc v B.U.heap L ∧ B.locs = A.locs ++ L ∧ B.cells = A.cells + rc ∧ B.slots = A.slots + rs))
    {a : Addr} {cB : ClassId} {kB : Class} (hcB : s.vm.findClass Cn = some cB) (hkB : s.vm.classes[cB]? = some kB) (hrecv : IsOf cB T a)
    (hg : g.method = m) (hsize : g.locals.size = c.maxLocals) {argsL rest : List Value} (hlen : ∀ sig, parseMethodDescriptor xi.desc = some sig → argsL.length = sig.parameters.length)
    (hstack : g.stack = argsL.reverse ++ .ref a :: rest) (hW : 2 * g.monitorRoom + (rest.map fun v => v.category).sum ≤ W) (hdg : decode c.code g.pc = .ok (.invokeinterface index count, 5))
    (ha : (Value.ref a :: argsL).toArray = as') (eT : T.heap = h) (hc : cells + rc ≤ R.cells) (hs : slots + rs ≤ R.slots)
    (k : ∀ v T' L, Stand p l e R s m args below meth c T' (locs ++ L) (cells + rc) (slots + rs) → Qc v T'.heap L → own_Go p e below P T' { g with pc := g.pc + 5, stack := v.toList ++ rest }) : own_Go p e below P T g := by
  obtain ⟨v, vm₁, ⟨T', L', k', n'⟩, -, X', ⟨L, hQ, l1, y1, z1⟩, st⟩ := X.interfaceBack hx hown hlink hdecl hface hsel hinst hpub hunh hcast hy hK hcB hkB hrecv hg hsize (Steps.refl _) hlen hstack hW hdg (fun _ _ => ⟨ha, eT, hc, hs⟩)
  dsimp only [Pt.U, Pt.locs, Pt.cells, Pt.slots] at X' l1 y1 z1 st hQ
  subst l1 y1 z1
  exact own_st (fun t k => st.trans k) (k v T' L X' hQ)
theorem own_callP (X : Stand p l e R s m args below meth c T locs cells slots) (hx : p.tables.exec = Jvm.exec) {own : String} {index : Nat} {y : MethodName} {bytes : ByteArray} {maxL : Nat} {ret : Option FieldType}
    (hown : s.vm.findClass own = some m.cls) (hlink : (Cond.methodLink own index y).before args s = true) (hinst : (Cond.instanceMethod y).before args s = true) (hsel : (Cond.selects y.cls y y).before args s = true)
    (hpriv : s.PrivateAt y) (hcode : (Cond.code y bytes maxL ret).before args s = true) (hy : y.cls ≠ "java/lang/invoke/MethodHandle" ∧ y.cls ≠ "java/lang/invoke/VarHandle")
    {W rc rs : Nat} {as' : Array Value} {h : Heap} {Qc : Option Value → Heap → List Loc → Prop}
    (hK : Back l R p e below s args y 3 W (fun A a => a = as' ∧ A.U.heap = h ∧ A.cells + rc ≤ R.cells ∧ A.slots + rs ≤ R.slots) (fun A _ v B => ∃ L, Qc v B.U.heap L ∧ B.locs = A.locs ++ L ∧ B.cells = A.cells + rc ∧ B.slots = A.slots + rs))
    {a : Addr} {cell : Cell} (hcell : T.heap[a]? = some cell) (hobj : ∀ q, cell.vm ≠ .statics q)
    (hg : g.method = m) (hsize : g.locals.size = c.maxLocals) {argsL rest : List Value} (hlen : ∀ sig, parseMethodDescriptor y.desc = some sig → argsL.length = sig.parameters.length)
    (hstack : g.stack = argsL.reverse ++ .ref a :: rest) (hW : 2 * g.monitorRoom + (rest.map fun v => v.category).sum ≤ W) (hdg : decode c.code g.pc = .ok (.invokevirtual index, 3))
    (ha : (Value.ref a :: argsL).toArray = as') (eT : T.heap = h) (hc : cells + rc ≤ R.cells) (hs : slots + rs ≤ R.slots)
    (k : ∀ v T' L, Stand p l e R s m args below meth c T' (locs ++ L) (cells + rc) (slots + rs) → Qc v T'.heap L → own_Go p e below P T' { g with pc := g.pc + 3, stack := v.toList ++ rest }) : own_Go p e below P T g := by
  obtain ⟨v, vm₁, ⟨T', L', k', n'⟩, -, X', ⟨L, hQ, l1, y1, z1⟩, st⟩ := X.privateBack hx hown hlink hinst hsel hpriv hcode hy hK hg hsize (Steps.refl _) hcell hobj hlen hstack hW hdg (fun _ _ => ⟨ha, eT, hc, hs⟩)
  dsimp only [Pt.U, Pt.locs, Pt.cells, Pt.slots] at X' l1 y1 z1 st hQ
  subst l1 y1 z1
  exact own_st (fun t k => st.trans k) (k v T' L X' hQ)
theorem own_callU (X : Stand p l e R s m args below meth c T locs cells slots) (hx : p.tables.exec = Jvm.exec) {own Cn owner : String} {index : Nat} {y z : MethodName}
    (hown : s.vm.findClass own = some m.cls) (hlink : (Cond.methodLink own index y).before args s = true) (hsame : (Cond.sameMethod y.cls owner y.name y.desc).before args s = true)
    (hdecl : (Cond.declares ⟨owner, y.name, y.desc⟩).before args s = true) (howner : owner ≠ "java/lang/invoke/MethodHandle" ∧ owner ≠ "java/lang/invoke/VarHandle")
    (hsel : (Cond.selects Cn y z).before args s = true) (hinst : (Cond.instanceMethod z).before args s = true)
    {W rc rs : Nat} {as' : Array Value} {h : Heap} {Qc : Option Value → Heap → List Loc → Prop}
    (hK : Back l R p e below s args z 3 W (fun A a => a = as' ∧ A.U.heap = h ∧ A.cells + rc ≤ R.cells ∧ A.slots + rs ≤ R.slots) (fun A _ v B => ∃ L, Qc v B.U.heap L ∧ B.locs = A.locs ++ L ∧ B.cells = A.cells + rc ∧ B.slots = A.slots + rs))
    {a : Addr} {cB : ClassId} (hcB : s.vm.findClass Cn = some cB) (hrecv : IsOf cB T a)
    (hg : g.method = m) (hsize : g.locals.size = c.maxLocals) {argsL rest : List Value} (hlen : ∀ sig, parseMethodDescriptor y.desc = some sig → argsL.length = sig.parameters.length)
    (hstack : g.stack = argsL.reverse ++ .ref a :: rest) (hW : 2 * g.monitorRoom + (rest.map fun v => v.category).sum ≤ W) (hdg : decode c.code g.pc = .ok (.invokevirtual index, 3))
    (ha : (Value.ref a :: argsL).toArray = as') (eT : T.heap = h) (hc : cells + rc ≤ R.cells) (hs : slots + rs ≤ R.slots)
    (k : ∀ v T' L, Stand p l e R s m args below meth c T' (locs ++ L) (cells + rc) (slots + rs) → Qc v T'.heap L → own_Go p e below P T' { g with pc := g.pc + 3, stack := v.toList ++ rest }) : own_Go p e below P T g := by
  obtain ⟨v, vm₁, ⟨T', L', k', n'⟩, -, X', ⟨L, hQ, l1, y1, z1⟩, st⟩ := X.virtualBackUp hx hown hlink hsame hdecl howner hsel hinst hK hcB hrecv hg hsize (Steps.refl _) hlen hstack hW hdg (fun _ _ => ⟨ha, eT, hc, hs⟩)
  dsimp only [Pt.U, Pt.locs, Pt.cells, Pt.slots] at X' l1 y1 z1 st hQ
  subst l1 y1 z1
  exact own_st (fun t k => st.trans k) (k v T' L X' hQ)
end Own
section OwnWords
variable {args : Array Value} {s : State} {t u : Term} {x y : Addr} {C n d : String} {z : Int32}
theorem own_feqR (h : (Cond.eq (Term.field t C n d) u).value args s none s [] = some true) (ht : t.eval args s none [] s = some (.ref x)) (hu : u.eval args s none [] s = some (.ref y)) : s.fieldOf? x C n d = some (.ref y) := by
  obtain ⟨x', y', h1, h2, k1, k2⟩ := cmp_v (Or.inl h)
  cases hu.symm.trans h2
  have hr : x'.isRef = true := k2.2
  have := gotT (eq_R h1 h2 hr rfl) h
  rw [← fld_at ht (idx := []) (first := s) (o := none) (args := args), h1, this]
theorem own_feqI (h : (Cond.eq (Term.field t C n d) (.int z)).value args s none s [] = some true) (ht : t.eval args s none [] s = some (.ref x)) : s.fieldOf? x C n d = some (.int z) := by
  obtain ⟨x', y', h1, h2, k1, k2⟩ := cmp_v (Or.inl h)
  cases (Term.int_eval z).symm.trans h2
  obtain ⟨z', rfl⟩ := k2
  have : z' = z := by simpa [Cond.value, h1, Term.int_eval] using h
  rw [← fld_at ht (idx := []) (first := s) (o := none) (args := args), h1, this]
end OwnWords
section OwnArr
variable {args : Array Value} {s : State} {t : Term} {a : Addr} {cl : Cell} {ty : FieldType} {z j v : Int32}
theorem own_len (h : (Cond.eq (Term.length t) (.int z)).value args s none s [] = some true) (ht : t.eval args s none [] s = some (.ref a)) (A : Arr s s.heap a cl ty) : cl.slots.size < 2 ^ 31 ∧ cl.slots.size.toInt32 = z := by
  obtain ⟨x', y', h1, h2, k1, k2⟩ := cmp_v (Or.inl h)
  cases (Term.int_eval z).symm.trans h2
  obtain ⟨z', rfl⟩ := k2
  have e : z' = z := by simpa [Cond.value, h1, Term.int_eval] using h
  have ha := A.fin (Vm.Alike.refl _)
  by_cases q : cl.slots.size < 2 ^ 31
  · rw [len_f ht ha q] at h1
    cases h1
    exact ⟨q, e⟩
  · simp [Term.eval, ht, ha, q] at h1
theorem own_elem (h : (Cond.eq (Term.elem t (.int j)) (.int v)).value args s none s [] = some true) (ht : t.eval args s none [] s = some (.ref a)) (A : Arr s s.heap a cl ty) (hj : ¬ j < 0) : cl.slots[j.toNatClampNeg]? = some (.int v) := by
  obtain ⟨x', y', h1, h2, k1, k2⟩ := cmp_v (Or.inl h)
  cases (Term.int_eval v).symm.trans h2
  obtain ⟨z', rfl⟩ := k2
  have e : z' = v := by simpa [Cond.value, h1, Term.int_eval] using h
  rw [elem_f ht (Term.int_eval j) (A.fin (Vm.Alike.refl _)) hj] at h1
  rw [h1, e]
end OwnArr

theorem own_words {Z : State} {a0 : Array Value} (hw : ∀ d ∈ tables_1, d.before a0 Z = true) : ∀ d ∈ StrChars.Road.words, d.before a0 Z = true := fun d hd => hw d ((by decide +kernel : ∀ d ∈ StrChars.Road.words, d ∈ tables_1) d hd)
theorem own_lnil : ∀ c ∈ ([] : List Int32), ¬ c < 0 ∧ ¬ (255 : Int32) < c := fun _ h => nomatch h
theorem own_lcons {a : Int32} {cs : List Int32} (h : ¬ a < 0 ∧ ¬ (255 : Int32) < a) (r : ∀ c ∈ cs, ¬ c < 0 ∧ ¬ (255 : Int32) < c) : ∀ c ∈ a :: cs, ¬ c < 0 ∧ ¬ (255 : Int32) < c := fun c hc => (List.mem_cons.mp hc).elim (fun e => e ▸ h) (r c)
theorem own_lat (y : Int32) (h : 0 ≤ y.toInt ∧ y.toInt ≤ 255) : nar .char y = y ∧ ¬ y < 0 ∧ ¬ (255 : Int32) < y := by
  have c := c_i2c y
  refine ⟨Int32.toInt_inj.mp ?_, ?_, ?_⟩
  · show y.toUInt32.toUInt16.toUInt32.toInt32.toInt = y.toInt
    omega
  · rw [Int32.lt_iff_toInt_lt]; show ¬ y.toInt < 0; omega
  · rw [Int32.lt_iff_toInt_lt]; show ¬ (255 : Int) < y.toInt; omega
theorem own_and255 (x : Int32) : ¬ nar .char ((x &&& (255 : Int32)).toUInt32.toUInt16.toUInt32.toInt32) < 0 ∧ ¬ (255 : Int32) < nar .char ((x &&& (255 : Int32)).toUInt32.toUInt16.toUInt32.toInt32) := by
  have h := c_and x (255 : Int32) (by decide)
  have e := own_lat (x &&& 255) ⟨h.1, h.2⟩
  have e2 : (x &&& (255 : Int32)).toUInt32.toUInt16.toUInt32.toInt32 = x &&& 255 := e.1
  rw [e2, e.1]; exact e.2
theorem own_up {cs : List Int32} (h : ∀ c ∈ cs, ¬ c < 0 ∧ ¬ (255 : Int32) < c) : ∀ c ∈ cs, ¬ c < 0 ∧ ¬ (65535 : Int32) < c := fun c hc => ⟨(h c hc).1, fun q => (h c hc).2 (by rw [Int32.lt_iff_toInt_lt] at q ⊢; have e1 : (65535 : Int32).toInt = 65535 := rfl; have e2 : (255 : Int32).toInt = 255 := rfl; omega)⟩
/-! Walks that may intern: what is kept beside the Stand over 's.setVm vm0'. -/
def own_Bk (Z : State) (EL : List (String × Nat)) (s : State) (h0 : Heap) (vm0 : Vm) (H : Heap) : Prop := (∃ k0, s.Since vm0 k0 ∧ k0 ≤ H.size) ∧ CHr Z EL s.vm h0 vm0 H
abbrev own_EndS (Z : State) (EL : List (String × Nat)) (s : State) (Q : Option Value → Heap → List Loc → Prop) (C S : Nat) : Outcome → State → Prop := fun o s₂ => ∃ v L, o = .returned v ∧ Q v s₂.heap L ∧ CHr Z EL s.vm s.heap s₂.vm s₂.heap ∧ ReturnedEndW s o s₂ L C S
section OwnS
variable {p : Program} {l : Launch} {e : Env} {R : Room} {s : State} {m : MethodId} {args : Array Value} {below : List Frame} {meth : Method} {c : Code} {T T' : State} {locs : List Loc} {cells slots : Nat} {P : Outcome → State → Prop} {g g' : JFrame} {Q : Option Value → Heap → List Loc → Prop} {C S : Nat} {Z : State} {EL : List (String × Nat)} {a0 : Array Value} {h0 H H' h : Heap} {vm0 vm1 : Vm} {a : Addr} {sl : Nat} {v : Value} {ws : List Addr}
theorem own_Bk.start (H : CHv Z EL s.vm h0) : own_Bk Z EL s h0 s.vm h0 := ⟨⟨0, (State.WarmedH.refl s).since 0, Nat.zero_le _⟩, CHr.refl H⟩
theorem own_Bk.ch (B : own_Bk Z EL s h0 vm0 H) : CHv Z EL vm0 H := B.2.1
theorem own_Bk.ext (E : Ext H H') (B : own_Bk Z EL s h0 vm0 H) : own_Bk Z EL s h0 vm0 H' := by
  obtain ⟨⟨k, h1, h2⟩, r⟩ := B
  exact ⟨⟨k, h1, Nat.le_trans h2 E.1⟩, r.trans (CHr.ext E r.1)⟩
theorem own_Bk.wr (W : Wr H H' a sl v) (q : Safe Z EL vm0 H a) (B : own_Bk Z EL s h0 vm0 H) : own_Bk Z EL s h0 vm0 H' := by
  obtain ⟨⟨k, h1, h2⟩, r⟩ := B
  exact ⟨⟨k, h1, by rw [W.size]; exact h2⟩, r.trans (CHr.wr W q r.1)⟩
theorem own_Bk.keep (K : Keep H H' ws) (q : ∀ x ∈ ws, Safe Z EL vm0 H x) (B : own_Bk Z EL s h0 vm0 H) : own_Bk Z EL s h0 vm0 H' := by
  obtain ⟨⟨k, h1, h2⟩, r⟩ := B
  exact ⟨⟨k, h1, Nat.le_trans h2 K.1⟩, r.trans (CHr.keep K q r.1)⟩
theorem own_leaveS (X : Stand p l e R (s.setVm vm0) m args below meth c T locs cells slots) (hZ : Z.Warmed39 vm0) (hEL : EW Z a0 EL) (eT : T.heap = H) (h0e : s.heap = h0) (B : own_Bk Z EL s h0 vm0 H) (hlk : meth.locks = false) {v : Option Value} (hv : meth.sig.returnType = none → v = none)
    (k : ∀ fs, (∀ (f : JFrame) (acts : List Action), f.method = m → f.locked = none → f.entered = [] → (doReturn e (T.setTop f) acts v).1 = T.setFrames fs) → Steps p.tables e below (T.setTop g) (T.setFrames fs))
    (hQ : Q v T.heap locs) (hC : cells ≤ C) (hS : slots ≤ S) : own_Go p e below (own_EndS Z EL s Q C S) T g := by
  obtain ⟨⟨k0, b1, b2⟩, r⟩ := B
  obtain ⟨fs, hr, hrun, hended, hW, hsame⟩ := X.leave hv hlk
  have q := b1.ended hW (show k0 ≤ T.heap.size by rw [eT]; exact b2) hsame
  refine ⟨_, _, k fs hr, hrun, hended, _, _, rfl, hQ, ?_, ⟨_, rfl⟩, q.1, q.2.1, q.2.2.mono hC hS⟩
  have z := r.trans (CHv.at X hZ hEL r.1)
  subst eT h0e
  exact z
theorem own_retNS (X : Stand p l e R (s.setVm vm0) m args below meth c T locs cells slots) (hx : p.tables.exec = Jvm.exec) (hlk : meth.locks = false) (hZ : Z.Warmed39 vm0) (hEL : EW Z a0 EL) (eT : T.heap = H) (h0e : s.heap = h0) (B : own_Bk Z EL s h0 vm0 H) {pc : Nat} {Ls : Array Slot} {z : Int32} {t : FieldType} {rest : List Value} (hret : meth.sig.returnType = some t) (ht : t = .boolean ∨ t = .byte ∨ t = .char ∨ t = .short)
    (hd : decode c.code pc = .ok (.ireturn, 1)) (hQ : Q (some (.int (nar t z))) T.heap locs) (hC : cells ≤ C) (hS : slots ≤ S) : own_Go p e below (own_EndS Z EL s Q C S) T (mkF m pc Ls (.int z :: rest)) :=
  own_leaveS X hZ hEL eT h0e B hlk (fun h => by rw [hret] at h; cases h) (fun fs hr => retN X hx hret ht hd hr) hQ hC hS
theorem own_retIS (X : Stand p l e R (s.setVm vm0) m args below meth c T locs cells slots) (hx : p.tables.exec = Jvm.exec) (hlk : meth.locks = false) (hZ : Z.Warmed39 vm0) (hEL : EW Z a0 EL) (eT : T.heap = H) (h0e : s.heap = h0) (B : own_Bk Z EL s h0 vm0 H) {pc : Nat} {Ls : Array Slot} {z : Int32} {rest : List Value} (hret : meth.sig.returnType = some .int)
    (hd : decode c.code pc = .ok (.ireturn, 1)) (hQ : Q (some (.int z)) T.heap locs) (hC : cells ≤ C) (hS : slots ≤ S) : own_Go p e below (own_EndS Z EL s Q C S) T (mkF m pc Ls (.int z :: rest)) :=
  own_leaveS X hZ hEL eT h0e B hlk (fun h => by rw [hret] at h; cases h) (fun fs hr => retOut X hx hret rfl (Or.inl ⟨rfl, Or.inl rfl, z, rfl⟩) hd hr) hQ hC hS
theorem own_retAS (X : Stand p l e R (s.setVm vm0) m args below meth c T locs cells slots) (hx : p.tables.exec = Jvm.exec) (hlk : meth.locks = false) (hZ : Z.Warmed39 vm0) (hEL : EW Z a0 EL) (eT : T.heap = H) (h0e : s.heap = h0) (B : own_Bk Z EL s h0 vm0 H) {pc : Nat} {Ls : Array Slot} {w : Value} {t : FieldType} {rest : List Value} (hret : meth.sig.returnType = some t) (ht : t.isReference = true) (hw : w.isRef = true)
    (hd : decode c.code pc = .ok (.areturn, 1)) (hQ : Q (some w) T.heap locs) (hC : cells ≤ C) (hS : slots ≤ S) : own_Go p e below (own_EndS Z EL s Q C S) T (mkF m pc Ls (w :: rest)) :=
  own_leaveS X hZ hEL eT h0e B hlk (fun h => by rw [hret] at h; cases h) (fun fs hr => retOut X hx hret (own_narrow_ref ht) (Or.inr (Or.inr (Or.inr (Or.inr ⟨rfl, ht, hw⟩)))) hd hr) hQ hC hS
theorem own_ret0S (X : Stand p l e R (s.setVm vm0) m args below meth c T locs cells slots) (hx : p.tables.exec = Jvm.exec) (hlk : meth.locks = false) (hZ : Z.Warmed39 vm0) (hEL : EW Z a0 EL) (eT : T.heap = H) (h0e : s.heap = h0) (B : own_Bk Z EL s h0 vm0 H) {pc : Nat} {Ls : Array Slot} (hret : meth.sig.returnType = none)
    (hd : decode c.code pc = .ok (.return_, 1)) (hQ : Q none T.heap locs) (hC : cells ≤ C) (hS : slots ≤ S) : own_Go p e below (own_EndS Z EL s Q C S) T (mkF m pc Ls []) :=
  own_leaveS X hZ hEL eT h0e B hlk (fun _ => rfl) (fun fs hr => X.returnOut hx hret hd hr) hQ hC hS
theorem own_ldc (X : Stand p l e R (s.setVm vm0) m args below meth c T locs cells slots) (hx : p.tables.exec = Jvm.exec) (hZ : Z.Warmed39 vm0) {own text : String} {index : Nat} (hown : vm0.findClass own = some m.cls) (w : (Cond.stringLink own index text).before a0 Z = true) (wS : ∀ a ∈ Bundle.stringAtoms, a.before a0 Z = true)
    (eT : T.heap = H) (hEL : EW Z a0 EL) (hmem : (own, index) ∈ EL) (B : own_Bk Z EL s h0 vm0 H)
    {vs : List Value} {z : Int32} (ht : (∀ c ∈ text.toList, c.toNat < 256) ∧ text.toList.map (fun c => Value.int (Jvm.Lit.byteI c.toNat.toUInt16)) = vs) (hz : ¬ z < 0) (hl : z.toNatClampNeg = vs.length)
    (hg : g.method = m) (hd : decode c.code g.pc = .ok (.ldc index, 2)) {n : Nat} (hn : 4 * text.toList.length ≤ n) (hbig : n ≤ 536870912) (hc : cells + 2 ≤ R.cells) (hl' : slots + (n + 4) ≤ R.slots) :
    ∃ (a : Addr) (T' : State) (h' : Heap) (b : Addr) (k : ClassId), Stand p l e R (s.setVm T'.vm) m args below meth c T' locs (cells + 2) (slots + (n + 4)) ∧ T'.heap = h' ∧ Ext H h' ∧ Z.Warmed39 T'.vm ∧ T'.vm.findClass own = some m.cls ∧
      Exa Z h' a "java/lang/String" ∧ Fld Z h' a "java/lang/String" "coder" "B" (.int 0) ∧ Fld Z h' a "java/lang/String" "value" "[B" (.ref b) ∧ Arv Z h' b k .byte z vs (.int 0) ∧ CHr Z EL vm0 H T'.vm h' ∧ own_Bk Z EL s h0 T'.vm h' ∧ (∀ x, Safe Z EL T'.vm h' x → x ≠ a ∧ x ≠ b) ∧
      ∀ target, Steps p.tables e below (T'.setTop { g with pc := g.pc + 2, stack := .ref a :: g.stack }) target → Steps p.tables e below (T.setTop g) target := by
  obtain ⟨⟨k0, b1, b2⟩, r⟩ := B
  obtain ⟨a, T', h', k1, b, k, r1, r2, r3, r4, r5, r6, r7, r8, r9, r10, r11, -, -, r14, -, r16, r17⟩ := ldcCH X hx hZ hown w wS eT b1 b2 hEL hmem r.1 ht hz hl hg hd hn hbig hc hl'
  exact ⟨a, T', h', b, k, r1, r2, r3, r6, r7, r8, r9, r10, r11, r14, ⟨⟨k1, r4, r5⟩, r.trans r14⟩, r16, r17⟩
theorem own_callSS (X : Stand p l e R (s.setVm vm0) m args below meth c T locs cells slots) (hx : p.tables.exec = Jvm.exec) {own : String} {index : Nat} {y : MethodName} {bytes : ByteArray} {maxL : Nat} {ret : Option FieldType}
    (hown : (s.setVm vm0).vm.findClass own = some m.cls) (hlink : (Cond.methodLink own index y).before args (s.setVm vm0) = true) (hstat : (Cond.static y).before args (s.setVm vm0) = true) (hinit : (Cond.initialized y.cls).before args (s.setVm vm0) = true)
    (hcode : (Cond.code y bytes maxL ret).before args (s.setVm vm0) = true) (hy : y.cls ≠ "java/lang/invoke/MethodHandle" ∧ y.cls ≠ "java/lang/invoke/VarHandle")
    {W rc rs : Nat} {as' : Array Value} {Qc : Option Value → Heap → List Loc → Prop}
    (hK : BackS l R p e below (s.setVm vm0) args y 3 W (fun A a => a = as' ∧ A.U.heap = h ∧ A.cells + rc ≤ R.cells ∧ A.slots + rs ≤ R.slots) (fun A _ v B => ∃ L, Qc v B.U.heap L ∧ B.locs = A.locs ++ L ∧ B.cells = A.cells + rc ∧ B.slots = A.slots + rs ∧ CHr Z EL vm0 h B.U.vm B.U.heap))
    (hg : g.method = m) (hsize : g.locals.size = c.maxLocals) {argsL rest : List Value} (hlen : ∀ sig, parseMethodDescriptor y.desc = some sig → argsL.length = sig.parameters.length)
    (hstack : g.stack = argsL.reverse ++ rest) (hW : 2 * g.monitorRoom + (rest.map fun v => v.category).sum ≤ W) (hdg : decode c.code g.pc = .ok (.invokestatic index, 3))
    (ha : argsL.toArray = as') (eT : T.heap = h) (hc : cells + rc ≤ R.cells) (hs : slots + rs ≤ R.slots) (hZ : Z.Warmed39 vm0) (B : own_Bk Z EL s h0 vm0 h)
    (k : ∀ v T' L, Stand p l e R (s.setVm T'.vm) m args below meth c T' (locs ++ L) (cells + rc) (slots + rs) → Qc v T'.heap L → CHr Z EL vm0 h T'.vm T'.heap → own_Bk Z EL s h0 T'.vm T'.heap → Z.Warmed39 T'.vm → T'.vm.findClass own = some m.cls → own_Go p e below P T' { g with pc := g.pc + 3, stack := v.toList ++ rest }) : own_Go p e below P T g := by
  obtain ⟨v, vm₁, ⟨T', L', k', n'⟩, -, X', hS', hgr, ⟨L, hQ, l1, y1, z1, hC⟩, st⟩ := callSS X hx hown hlink hstat hinit hcode hy hK hg hsize hlen hstack hW hdg (fun _ _ => ⟨ha, eT, hc, hs⟩)
  dsimp only [Pt.U, Pt.locs, Pt.cells, Pt.slots] at X' l1 y1 z1 st hQ hS' hgr hC
  subst l1 y1 z1
  obtain ⟨⟨k0, b1, b2⟩, r⟩ := B
  have hS2 := foldS b1 (show k0 ≤ T.heap.size by rw [eT]; exact b2) hS' hgr
  exact own_st (fun t k => st.trans k) (k v T' L X' hQ hC ⟨⟨_, hS2, Nat.le_refl _⟩, r.trans hC⟩ (State.Warmed39.trans (t := s.setVm vm0) hZ hS'.1) (by rw [hS'.1.alike.findClass]; exact hown))
theorem own_callNS (X : Stand p l e R (s.setVm vm0) m args below meth c T locs cells slots) (hx : p.tables.exec = Jvm.exec) {own : String} {index : Nat} {y : MethodName} {bytes : ByteArray} {maxL : Nat} (hy1 : y.name = "<init>")
    (hown : (s.setVm vm0).vm.findClass own = some m.cls) (hlink : (Cond.methodLink own index y).before args (s.setVm vm0) = true) (hinst : (Cond.instanceMethod y).before args (s.setVm vm0) = true)
    (hcode : (Cond.code y bytes maxL none).before args (s.setVm vm0) = true) (hy : y.cls ≠ "java/lang/invoke/MethodHandle" ∧ y.cls ≠ "java/lang/invoke/VarHandle")
    {W rc rs : Nat} {as' : Array Value} {Qc : Option Value → Heap → List Loc → Prop}
    (hK : BackS l R p e below (s.setVm vm0) args y 3 W (fun A a => a = as' ∧ A.U.heap = h ∧ A.cells + rc ≤ R.cells ∧ A.slots + rs ≤ R.slots) (fun A _ v B => ∃ L, Qc v B.U.heap L ∧ B.locs = A.locs ++ L ∧ B.cells = A.cells + rc ∧ B.slots = A.slots + rs ∧ CHr Z EL vm0 h B.U.vm B.U.heap))
    {a : Addr} (hg : g.method = m) (hsize : g.locals.size = c.maxLocals) {argsL rest : List Value} (hlen : ∀ sig, parseMethodDescriptor y.desc = some sig → argsL.length = sig.parameters.length)
    (hstack : g.stack = argsL.reverse ++ .ref a :: rest) (hW : 2 * g.monitorRoom + (rest.map fun v => v.category).sum ≤ W) (hdg : decode c.code g.pc = .ok (.invokespecial index, 3))
    (ha : (Value.ref a :: argsL).toArray = as') (eT : T.heap = h) (hc : cells + rc ≤ R.cells) (hs : slots + rs ≤ R.slots) (hZ : Z.Warmed39 vm0) (B : own_Bk Z EL s h0 vm0 h)
    (k : ∀ v T' L, Stand p l e R (s.setVm T'.vm) m args below meth c T' (locs ++ L) (cells + rc) (slots + rs) → Qc v T'.heap L → CHr Z EL vm0 h T'.vm T'.heap → own_Bk Z EL s h0 T'.vm T'.heap → Z.Warmed39 T'.vm → T'.vm.findClass own = some m.cls → own_Go p e below P T' { g with pc := g.pc + 3, stack := v.toList ++ rest }) : own_Go p e below P T g := by
  obtain ⟨v, vm₁, ⟨T', L', k', n'⟩, -, X', hS', hgr, ⟨L, hQ, l1, y1, z1, hC⟩, st⟩ := X.specialBackS hx hy1 hown hlink hinst hcode hy hK hg hsize (Steps.refl _) hlen hstack hW hdg (fun _ _ => ⟨ha, eT, hc, hs⟩)
  dsimp only [Pt.U, Pt.locs, Pt.cells, Pt.slots] at X' l1 y1 z1 st hQ hS' hgr hC
  subst l1 y1 z1
  obtain ⟨⟨k0, b1, b2⟩, r⟩ := B
  have hS2 := foldS b1 (show k0 ≤ T.heap.size by rw [eT]; exact b2) hS' hgr
  exact own_st (fun t k => st.trans k) (k v T' L X' hQ hC ⟨⟨_, hS2, Nat.le_refl _⟩, r.trans hC⟩ (State.Warmed39.trans (t := s.setVm vm0) hZ hS'.1) (by rw [hS'.1.alike.findClass]; exact hown))
theorem own_callVS (X : Stand p l e R (s.setVm vm0) m args below meth c T locs cells slots) (hx : p.tables.exec = Jvm.exec) {own Cn : String} {index : Nat} {y z : MethodName}
    (hown : (s.setVm vm0).vm.findClass own = some m.cls) (hlink : (Cond.methodLink own index y).before args (s.setVm vm0) = true) (hdecl : (Cond.declares y).before args (s.setVm vm0) = true) (hnf : NotFace (s.setVm vm0) y)
    (hsel : (Cond.selects Cn y z).before args (s.setVm vm0) = true) (hinst : (Cond.instanceMethod z).before args (s.setVm vm0) = true)
    (hy : y.cls ≠ "java/lang/invoke/MethodHandle" ∧ y.cls ≠ "java/lang/invoke/VarHandle")
    {W rc rs : Nat} {as' : Array Value} {Qc : Option Value → Heap → List Loc → Prop}
    (hK : BackS l R p e below (s.setVm vm0) args z 3 W (fun A a => a = as' ∧ A.U.heap = h ∧ A.cells + rc ≤ R.cells ∧ A.slots + rs ≤ R.slots) (fun A _ v B => ∃ L, Qc v B.U.heap L ∧ B.locs = A.locs ++ L ∧ B.cells = A.cells + rc ∧ B.slots = A.slots + rs ∧ CHr Z EL vm0 h B.U.vm B.U.heap))
    {a : Addr} {cB : ClassId} (hcB : (s.setVm vm0).vm.findClass Cn = some cB) (hrecv : IsOf cB T a)
    (hg : g.method = m) (hsize : g.locals.size = c.maxLocals) {argsL rest : List Value} (hlen : ∀ sig, parseMethodDescriptor y.desc = some sig → argsL.length = sig.parameters.length)
    (hstack : g.stack = argsL.reverse ++ .ref a :: rest) (hW : 2 * g.monitorRoom + (rest.map fun v => v.category).sum ≤ W) (hdg : decode c.code g.pc = .ok (.invokevirtual index, 3))
    (ha : (Value.ref a :: argsL).toArray = as') (eT : T.heap = h) (hc : cells + rc ≤ R.cells) (hs : slots + rs ≤ R.slots) (hZ : Z.Warmed39 vm0) (B : own_Bk Z EL s h0 vm0 h)
    (k : ∀ v T' L, Stand p l e R (s.setVm T'.vm) m args below meth c T' (locs ++ L) (cells + rc) (slots + rs) → Qc v T'.heap L → CHr Z EL vm0 h T'.vm T'.heap → own_Bk Z EL s h0 T'.vm T'.heap → Z.Warmed39 T'.vm → T'.vm.findClass own = some m.cls → own_Go p e below P T' { g with pc := g.pc + 3, stack := v.toList ++ rest }) : own_Go p e below P T g := by
  obtain ⟨v, vm₁, ⟨T', L', k', n'⟩, -, X', hS', hgr, ⟨L, hQ, l1, y1, z1, hC⟩, st⟩ := X.virtualBackS hx hown hlink hdecl hnf hsel hinst hy hK hcB hrecv hg hsize (Steps.refl _) hlen hstack hW hdg (fun _ _ => ⟨ha, eT, hc, hs⟩)
  dsimp only [Pt.U, Pt.locs, Pt.cells, Pt.slots] at X' l1 y1 z1 st hQ hS' hgr hC
  subst l1 y1 z1
  obtain ⟨⟨k0, b1, b2⟩, r⟩ := B
  have hS2 := foldS b1 (show k0 ≤ T.heap.size by rw [eT]; exact b2) hS' hgr
  exact own_st (fun t k => st.trans k) (k v T' L X' hQ hC ⟨⟨_, hS2, Nat.le_refl _⟩, r.trans hC⟩ (State.Warmed39.trans (t := s.setVm vm0) hZ hS'.1) (by rw [hS'.1.alike.findClass]; exact hown))
end OwnS

theorem own_EL {Z : State} {a0 : Array Value} (hw : ∀ d ∈ tables_1, d.before a0 Z = true) : EW Z a0 consts_1 := (EW.cons (hw _ (List.mem_of_getElem? (i := 18) rfl)) (by decide) EW.nil)
theorem own_wS {Z : State} {a0 : Array Value} (hw : ∀ d ∈ tables_1, d.before a0 Z = true) : ∀ a ∈ Bundle.stringAtoms, a.before a0 Z = true := fun d hd => hw d ((by decide +kernel : ∀ d ∈ Bundle.stringAtoms, d ∈ tables_1) d hd)
theorem own_safeNull {Z : State} {EL : List (String × Nat)} {vm : Vm} {h : Heap} {x : Addr} (hal : Z.vm.Alike vm) (E : Exa Z h x "java/lang/String") (F : Fld Z h x "java/lang/String" "value" "[B" .null) : Safe Z EL vm h x := fun B => by
  obtain ⟨cell, cf, k, i, f, f1, f2, -, -, -, -, f7⟩ := F
  obtain ⟨cell', k', e1, e2, e3, -, -⟩ := E
  cases f1.symm.trans e1
  obtain ⟨p, -, u, a, -, q, -, F', rfl | rfl⟩ := B
  · cases (show h[q.sa]? = some q.sC from F'.ha).symm.trans f1
    obtain ⟨cS, ⟨⟨s1, s2, s3, ⟨cv, kv, iv, s4, s4'⟩, s5, s6, s7, s8, s9⟩, -, -⟩, -⟩ := F'
    obtain ⟨kv', z4⟩ := ff_back (U := Wst Z vm h) hal s4
    cases f2.symm.trans z4
    rw [f7] at s8
    cases s8
  · cases (show h[q.sd]? = some q.SA from F'.hd).symm.trans f1
    obtain ⟨cS, -, -, g, -⟩ := F'
    have g' : vm.findClass "[B" = some q.SA.cls := g
    rw [hal.findClass] at g'
    obtain ⟨k1, q1, q2⟩ := Vm.findClass_spec g'
    obtain ⟨k2, q3, q4⟩ := Vm.findClass_spec e2
    cases q1.symm.trans q3
    exact absurd (q2.symm.trans q4) (by decide)
theorem own_arvNe {Z : State} {h : Heap} {a b : Addr} {k k' : ClassId} {t t' : FieldType} {z z' : Int32} {vs vs' : List Value} {d d' : Value} (A : Arv Z h a k t z vs d) (B : Arv Z h b k' t' z' vs' d') (hn : t ≠ t') : a ≠ b := fun e => by
  subst e
  obtain ⟨c, ⟨a1, ⟨-, ka, a2, ca, a3⟩, -⟩, -⟩ := A
  obtain ⟨c', ⟨b1, ⟨-, kb, b2, cb, b3⟩, -⟩, -⟩ := B
  cases a1.symm.trans b1
  cases a2.symm.trans b2
  have e := a3.symm.trans b3
  injection e with _ e2
  exact hn e2
def QE (Z : State) (x : Addr) (h0 : Heap) (n0 : Nat) (v : Option Value) (h : Heap) (L : List Loc) : Prop := v = none ∧ Fr n0 L ∧ Keep h0 h [x] ∧ Exa Z h x "java/lang/String" ∧ Fld Z h x "java/lang/String" "coder" "B" (.int 0) ∧ ∃ (t : Addr) (kb : ClassId), ¬ t = x ∧ Fld Z h x "java/lang/String" "value" "[B" (.ref t) ∧ Arv Z h t kb .byte (0 : Int32) [] (.int 0)
theorem d1_0 : decode jdk_42_method_149_code 0 = .ok (.aload_n 0, 1) := by decide +kernel
theorem d1_1 : decode jdk_42_method_149_code 1 = .ok (.invokespecial 1, 3) := by decide +kernel
theorem d1_4 : decode jdk_42_method_149_code 4 = .ok (.iload_n 3, 1) := by decide +kernel
theorem d1_5 : decode jdk_42_method_149_code 5 = .ok (.ifCond .ne 22, 3) := by decide +kernel
theorem d1_8 : decode jdk_42_method_149_code 8 = .ok (.aload_n 0, 1) := by decide +kernel
theorem d1_9 : decode jdk_42_method_149_code 9 = .ok (.ldc 7, 2) := by decide +kernel
theorem d1_11 : decode jdk_42_method_149_code 11 = .ok (.getfield 9, 3) := by decide +kernel
theorem d1_14 : decode jdk_42_method_149_code 14 = .ok (.putfield 9, 3) := by decide +kernel
theorem d1_17 : decode jdk_42_method_149_code 17 = .ok (.aload_n 0, 1) := by decide +kernel
theorem d1_18 : decode jdk_42_method_149_code 18 = .ok (.ldc 7, 2) := by decide +kernel
theorem d1_20 : decode jdk_42_method_149_code 20 = .ok (.getfield 15, 3) := by decide +kernel
theorem d1_23 : decode jdk_42_method_149_code 23 = .ok (.putfield 15, 3) := by decide +kernel
theorem d1_26 : decode jdk_42_method_149_code 26 = .ok (.return_, 1) := by decide +kernel
theorem pn_0 : plainName "java/lang/String" = true := by first | (simp [plainName, overriddenIn]; done) | decide +kernel
theorem ef_rmE1 (m : MethodId) (x0 : Addr) (x1 : Addr) (x2 : Int32) (x3 : Int32) : entryFrame m #[(.ref x0), (.ref x1), (.int x2), (.int x3), .null] 6 = mkF m 0 #[.val (.ref x0), .val (.ref x1), .val (.int x2), .val (.int x3), .val .null, .unset] [] := by first | (simp [entryFrame, mkF, argsToLocals, Value.category]; done) | rfl
set_option maxRecDepth 65536 in
set_option maxHeartbeats 40000000 in
theorem rmE1 (l : Launch) (Z : State) (a0 : Array Value) (hw : ∀ d ∈ tables_1, d.before a0 Z = true) (ws : List Jvm.Cond) (x b : Addr) (h0 : Heap) (n0 : Nat) (Z0 : n0 ≤ h0.size) (g_x : n0 ≤ x) (Ex : Exa Z h0 x "java/lang/String") (Fv : Fld Z h0 x "java/lang/String" "value" "[B" .null) (Fc : Fld Z h0 x "java/lang/String" "coder" "B" (.int (0 : Int32))) :
    MetFree l (⟨"java/lang/String", "<init>", "([CIILjava/lang/Void;)V"⟩ : MethodName) (head1 (Jvm.Cond.code (⟨"java/lang/String", "<init>", "([CIILjava/lang/Void;)V"⟩ : MethodName) jdk_42_method_149_code 6 none :: ws) ({ frames := 1, cells := 4, slots := 8, locals := 12 } : Room)) (fun a_ U_ => a_ = #[(.ref x), (.ref b), (.int (0 : Int32)), (.int (0 : Int32)), .null] ∧ Z.Warmed39 U_.vm ∧ U_.heap = h0 ∧ CHv Z consts_1 U_.vm h0) (fun _ _ _ _ _ => True) (fun _ U_ o_ U'_ => ∃ v_ L_, o_ = .returned v_ ∧ QE Z x h0 n0 v_ U'_.heap L_ ∧ CHr Z consts_1 U_.vm U_.heap U'_.vm U'_.heap ∧ ReturnedEndW U_ o_ U'_ L_ ({ frames := 1, cells := 4, slots := 8, locals := 12 } : Room).cells ({ frames := 1, cells := 4, slots := 8, locals := 12 } : Room).slots) := by
  refine MetFree.of_bodySF (plainFor_of_name pn_0) hisR ?_
  intro p e s m args below meth c s₁ Bd hml0 hP hK
  obtain ⟨rfl, hZ, hh, hC0⟩ := hP
  have hx := Bd.exec
  have hby := Bd.bytes
  have hml : c.maxLocals = 6 := hml0
  have hown : s.vm.findClass "java/lang/String" = some m.cls := findClass_of_methodNamed Bd.named
  have hnm := (name_of_methodNamed Bd.named Bd.method).1
  have hlk := BodyLoose.notSynchronized Bd
  have X0 : Stand p l e ({ frames := 1, cells := 4, slots := 8, locals := 12 } : Room) (s.setVm s.vm) m #[(.ref x), (.ref b), (.int (0 : Int32)), (.int (0 : Int32)), .null] below meth c s₁ [] 0 0 := Stand.of_body Bd
  have e0 : s₁.heap = h0 := by rw [← hh, Bd.state]; rfl
  have N0 := Fr.nil n0
  have hEL := own_EL hw
  have B0 : own_Bk Z consts_1 s h0 s.vm h0 := own_Bk.start hC0
  refine own_entry (P := own_EndS Z consts_1 s (QE Z x h0 n0) ({ frames := 1, cells := 4, slots := 8, locals := 12 } : Room).cells ({ frames := 1, cells := 4, slots := 8, locals := 12 } : Room).slots) (ef_rmE1 m x b (0 : Int32) (0 : Int32)) ?_
  show own_Go p e below _ s₁ (mkF m 0 #[.val (.ref x), .val (.ref b), .val (.int (0 : Int32)), .val (.int (0 : Int32)), .val .null, .unset] [])
  have Sfx := own_safeNull (EL := consts_1) hZ.alike Ex Fv
  refine own_st (fun t_ k_ => XS.aloadN X0.here hx rfl (hb hby d1_0) rfl rfl k_) ?_
  show own_Go p e below _ s₁ (mkF m 1 #[.val (.ref x), .val (.ref b), .val (.int (0 : Int32)), .val (.int (0 : Int32)), .val .null, .unset] [(.ref x)])
  obtain ⟨T1, X1, e1, st1⟩ := initO X0 hx hZ hown (hw _ (List.mem_of_getElem? (i := 15) rfl)) (hw _ (List.mem_of_getElem? (i := 16) rfl)) (hw _ (List.mem_of_getElem? (i := 17) rfl)) e0 (g := (mkF m 1 #[.val (.ref x), .val (.ref b), .val (.int (0 : Int32)), .val (.int (0 : Int32)), .val .null, .unset] [(.ref x)])) rfl (by rw [hml]; rfl) rfl (hb hby d1_1) (by decide) (W := 0) (by show 2 * 0 + _ ≤ _; exact Nat.le_of_eq rfl) (by decide)
  refine own_st st1 ?_
  show own_Go p e below _ T1 (mkF m 4 #[.val (.ref x), .val (.ref b), .val (.int (0 : Int32)), .val (.int (0 : Int32)), .val .null, .unset] [])
  refine own_st (fun t_ k_ => XS.iloadN X1.here hx rfl (hb hby d1_4) rfl k_) ?_
  show own_Go p e below _ T1 (mkF m 5 #[.val (.ref x), .val (.ref b), .val (.int (0 : Int32)), .val (.int (0 : Int32)), .val .null, .unset] [(.int (0 : Int32))])
  refine own_st (fun t_ k_ => XS.ifNo X1.here hx rfl (hb hby d1_5) rfl (by decide) k_) ?_
  show own_Go p e below _ T1 (mkF m 8 #[.val (.ref x), .val (.ref b), .val (.int (0 : Int32)), .val (.int (0 : Int32)), .val .null, .unset] [])
  refine own_st (fun t_ k_ => XS.aloadN X1.here hx rfl (hb hby d1_8) rfl rfl k_) ?_
  show own_Go p e below _ T1 (mkF m 9 #[.val (.ref x), .val (.ref b), .val (.int (0 : Int32)), .val (.int (0 : Int32)), .val .null, .unset] [(.ref x)])
  obtain ⟨la2, T2, h2, lb2, kb2, X2, e2, E2, hZ, hown, Ex2, Cd2, Vl2, Ar2, CH2, B2, ns2, st2⟩ := own_ldc X1 hx hZ hown (hw _ (List.mem_of_getElem? (i := 18) rfl)) (own_wS hw) e1 hEL (by decide) B0 (vs := []) (z := (0 : Int32)) ⟨by decide, rfl⟩ (by decide) rfl (g := (mkF m 9 #[.val (.ref x), .val (.ref b), .val (.int (0 : Int32)), .val (.int (0 : Int32)), .val .null, .unset] [(.ref x)])) rfl (hb hby d1_9) (n := 0) (by decide) (by decide) (by decide) (by decide)
  refine own_st st2 ?_
  have K2 : Keep h0 h2 [x] := (Keep.refl h0 [x]).ext E2
  show own_Go p e below _ T2 (mkF m 11 #[.val (.ref x), .val (.ref b), .val (.int (0 : Int32)), .val (.int (0 : Int32)), .val .null, .unset] [(.ref la2), (.ref x)])
  obtain ⟨T3, X3, e3, st3⟩ := getF X2 hx hZ hown (host := "") (Or.inl (hw _ (List.mem_of_getElem? (i := 24) rfl))) Via.refl e2 Vl2 (g := (mkF m 11 #[.val (.ref x), .val (.ref b), .val (.int (0 : Int32)), .val (.int (0 : Int32)), .val .null, .unset] [(.ref la2), (.ref x)])) rfl rfl (hb hby d1_11)
  refine own_st st3 ?_
  show own_Go p e below _ T3 (mkF m 14 #[.val (.ref x), .val (.ref b), .val (.int (0 : Int32)), .val (.int (0 : Int32)), .val .null, .unset] [(.ref lb2), (.ref x)])
  have f5 := (Fld.ext E2 Fv)
  have f6 := (Exa.ext E2 Ex)
  obtain ⟨T4, h4, X4, e4, W4, st4⟩ := putF X3 hx hZ hown (host := "") (Or.inl (hw _ (List.mem_of_getElem? (i := 24) rfl))) Via.refl e3 f5 f6 (Or.inr ⟨(hw _ (List.mem_of_getElem? (i := 20) rfl)), rfl, hnm⟩) (hw _ (List.mem_of_getElem? (i := 5) rfl)) (ty := (.array .byte)) (by decide) rfl rfl (g := (mkF m 14 #[.val (.ref x), .val (.ref b), .val (.int (0 : Int32)), .val (.int (0 : Int32)), .val .null, .unset] [(.ref lb2), (.ref x)])) rfl rfl (hb hby d1_14)
  refine own_st st4 ?_
  have f7 := (CHr.safe CH2 Ex.lt Sfx)
  have Sw4 := f7
  have B4 := own_Bk.wr W4 Sw4 B2
  have N4 := Fr.snoc X4 N0 g_x
  have K4 : Keep h0 h4 [x] := K2.wr W4 (Or.inl (List.mem_of_getElem? (i := 0) rfl))
  have Fw4 := Fld.same W4 f5
  show own_Go p e below _ T4 (mkF m 17 #[.val (.ref x), .val (.ref b), .val (.int (0 : Int32)), .val (.int (0 : Int32)), .val .null, .unset] [])
  refine own_st (fun t_ k_ => XS.aloadN X4.here hx rfl (hb hby d1_17) rfl rfl k_) ?_
  show own_Go p e below _ T4 (mkF m 18 #[.val (.ref x), .val (.ref b), .val (.int (0 : Int32)), .val (.int (0 : Int32)), .val .null, .unset] [(.ref x)])
  have f9 := (Safe.wr W4 Sw4 (own_Bk.ch B2) f7)
  obtain ⟨la8, T8, h8, lb8, kb8, X8, e8, E8, hZ, hown, Ex8, Cd8, Vl8, Ar8, CH8, B8, ns8, st8⟩ := own_ldc X4 hx hZ hown (hw _ (List.mem_of_getElem? (i := 18) rfl)) (own_wS hw) e4 hEL (by decide) B4 (vs := []) (z := (0 : Int32)) ⟨by decide, rfl⟩ (by decide) rfl (g := (mkF m 18 #[.val (.ref x), .val (.ref b), .val (.int (0 : Int32)), .val (.int (0 : Int32)), .val .null, .unset] [(.ref x)])) rfl (hb hby d1_18) (n := 0) (by decide) (by decide) (by decide) (by decide)
  refine own_st st8 ?_
  have K8 : Keep h0 h8 [x] := K4.ext E8
  show own_Go p e below _ T8 (mkF m 20 #[.val (.ref x), .val (.ref b), .val (.int (0 : Int32)), .val (.int (0 : Int32)), .val .null, .unset] [(.ref la8), (.ref x)])
  obtain ⟨T10, X10, e10, st10⟩ := getF X8 hx hZ hown (host := "") (Or.inl (hw _ (List.mem_of_getElem? (i := 25) rfl))) Via.refl e8 Cd8 (g := (mkF m 20 #[.val (.ref x), .val (.ref b), .val (.int (0 : Int32)), .val (.int (0 : Int32)), .val .null, .unset] [(.ref la8), (.ref x)])) rfl rfl (hb hby d1_20)
  refine own_st st10 ?_
  show own_Go p e below _ T10 (mkF m 23 #[.val (.ref x), .val (.ref b), .val (.int (0 : Int32)), .val (.int (0 : Int32)), .val .null, .unset] [(.int (0 : Int32)), (.ref x)])
  have f12 := (Fld.ext E2 Fc)
  have f13 := (Fld.other W4 f12 (Or.inr (slot_ne (Or.inr (hw _ (List.mem_of_getElem? (i := 21) rfl))) (Or.inr (hw _ (List.mem_of_getElem? (i := 20) rfl))) (by decide) (t := .byte) (t' := (.array .byte)) (by decide) (by decide))))
  have f14 := (Fld.ext E8 f13)
  have f15 := (Exa.wr W4 f6)
  have f16 := (Exa.ext E8 f15)
  obtain ⟨T11, h11, X11, e11, W11, st11⟩ := putFN X10 hx hZ hown (hw _ (List.mem_of_getElem? (i := 25) rfl)) Via.refl e10 f14 f16 (Or.inr ⟨(hw _ (List.mem_of_getElem? (i := 21) rfl)), rfl, hnm⟩) (hw _ (List.mem_of_getElem? (i := 5) rfl)) (ty := .byte) (v' := (.int (0 : Int32))) (by decide) rfl (by decide) (g := (mkF m 23 #[.val (.ref x), .val (.ref b), .val (.int (0 : Int32)), .val (.int (0 : Int32)), .val .null, .unset] [(.int (0 : Int32)), (.ref x)])) rfl rfl (hb hby d1_23)
  refine own_st st11 ?_
  have f17 := (CHr.safe CH8 f15.lt f9)
  have Sw11 := f17
  have B11 := own_Bk.wr W11 Sw11 B8
  have N11 := Fr.snoc X11 N4 g_x
  have K11 : Keep h0 h11 [x] := K8.wr W11 (Or.inl (List.mem_of_getElem? (i := 0) rfl))
  have Fw11 := Fld.same W11 f14
  show own_Go p e below _ T11 (mkF m 26 #[.val (.ref x), .val (.ref b), .val (.int (0 : Int32)), .val (.int (0 : Int32)), .val .null, .unset] [])
  have f18 := (Fld.ext E8 Fw4)
  have f19 := (Fld.other W11 f18 (Or.inr (slot_ne (Or.inr (hw _ (List.mem_of_getElem? (i := 20) rfl))) (Or.inr (hw _ (List.mem_of_getElem? (i := 21) rfl))) (by decide) (t := (.array .byte)) (t' := .byte) (by decide) (by decide))))
  have f20 := (Exa.wr W11 f16)
  have ne21 : x ≠ lb2 := (ns2 _ f7).2
  have f22 := (Ar2.other W4 (Ne.symm ne21))
  have f23 := (f22.ext E8)
  have f24 := (f23.other W11 (Ne.symm ne21))
  refine own_ret0S X11 hx hlk hZ hEL e11 hh B11 Bd.returns (hb hby d1_26) ?_ (by decide) (by decide)
  show QE Z x h0 n0 _ T11.heap _
  rw [e11]
  exact ⟨rfl, N11, K11, f20, Fw11, lb2, _, (Ne.symm ne21), f19, f24⟩
theorem d2_0 : decode jdk_42_method_3_code 0 = .ok (.aload_n 0, 1) := by decide +kernel
theorem d2_1 : decode jdk_42_method_3_code 1 = .ok (.aload_n 1, 1) := by decide +kernel
theorem d2_2 : decode jdk_42_method_3_code 2 = .ok (.iconst 0, 1) := by decide +kernel
theorem d2_3 : decode jdk_42_method_3_code 3 = .ok (.aload_n 1, 1) := by decide +kernel
theorem d2_4 : decode jdk_42_method_3_code 4 = .ok (.arraylength, 1) := by decide +kernel
theorem d2_5 : decode jdk_42_method_3_code 5 = .ok (.aconst_null, 1) := by decide +kernel
theorem d2_6 : decode jdk_42_method_3_code 6 = .ok (.invokespecial 27, 3) := by decide +kernel
theorem pd_0 : parseMethodDescriptor "([CIILjava/lang/Void;)V" = some ⟨[(.array .char), .int, .int, (.object "java/lang/Void")], none⟩ := by decide +kernel
theorem d2_9 : decode jdk_42_method_3_code 9 = .ok (.return_, 1) := by decide +kernel
theorem ef_rmE0 (m : MethodId) (x0 : Addr) (x1 : Addr) : entryFrame m #[(.ref x0), (.ref x1)] 2 = mkF m 0 #[.val (.ref x0), .val (.ref x1)] [] := by first | (simp [entryFrame, mkF, argsToLocals, Value.category]; done) | rfl
set_option maxRecDepth 65536 in
set_option maxHeartbeats 40000000 in
theorem rmE0 (l : Launch) (Z : State) (a0 : Array Value) (hw : ∀ d ∈ tables_1, d.before a0 Z = true) (ws : List Jvm.Cond) (x b : Addr) (kc : ClassId) (h0 : Heap) (n0 : Nat) (Z0 : n0 ≤ h0.size) (g_x : n0 ≤ x) (Ex : Exa Z h0 x "java/lang/String") (Fv : Fld Z h0 x "java/lang/String" "value" "[B" .null) (Fc : Fld Z h0 x "java/lang/String" "coder" "B" (.int (0 : Int32))) (Ab : Arv Z h0 b kc .char (0 : Int32) [] (.int (0 : Int32))) :
    MetFree l (⟨"java/lang/String", "<init>", "([C)V"⟩ : MethodName) (head1 (Jvm.Cond.code (⟨"java/lang/String", "<init>", "([C)V"⟩ : MethodName) jdk_42_method_3_code 2 none :: ws) ({ frames := 2, cells := 4, slots := 8, locals := 29 } : Room)) (fun a_ U_ => a_ = #[(.ref x), (.ref b)] ∧ Z.Warmed39 U_.vm ∧ U_.heap = h0 ∧ CHv Z consts_1 U_.vm h0) (fun _ _ _ _ _ => True) (fun _ U_ o_ U'_ => ∃ v_ L_, o_ = .returned v_ ∧ QE Z x h0 n0 v_ U'_.heap L_ ∧ CHr Z consts_1 U_.vm U_.heap U'_.vm U'_.heap ∧ ReturnedEndW U_ o_ U'_ L_ ({ frames := 2, cells := 4, slots := 8, locals := 29 } : Room).cells ({ frames := 2, cells := 4, slots := 8, locals := 29 } : Room).slots) := by
  refine MetFree.of_bodySF (plainFor_of_name pn_0) hisR ?_
  intro p e s m args below meth c s₁ Bd hml0 hP hK
  obtain ⟨rfl, hZ, hh, hC0⟩ := hP
  have hx := Bd.exec
  have hby := Bd.bytes
  have hml : c.maxLocals = 2 := hml0
  have hown : s.vm.findClass "java/lang/String" = some m.cls := findClass_of_methodNamed Bd.named
  have hnm := (name_of_methodNamed Bd.named Bd.method).1
  have hlk := BodyLoose.notSynchronized Bd
  have X0 : Stand p l e ({ frames := 2, cells := 4, slots := 8, locals := 29 } : Room) (s.setVm s.vm) m #[(.ref x), (.ref b)] below meth c s₁ [] 0 0 := Stand.of_body Bd
  have e0 : s₁.heap = h0 := by rw [← hh, Bd.state]; rfl
  have N0 := Fr.nil n0
  have hEL := own_EL hw
  have B0 : own_Bk Z consts_1 s h0 s.vm h0 := own_Bk.start hC0
  refine own_entry (P := own_EndS Z consts_1 s (QE Z x h0 n0) ({ frames := 2, cells := 4, slots := 8, locals := 29 } : Room).cells ({ frames := 2, cells := 4, slots := 8, locals := 29 } : Room).slots) (ef_rmE0 m x b) ?_
  show own_Go p e below _ s₁ (mkF m 0 #[.val (.ref x), .val (.ref b)] [])
  have Sfx := own_safeNull (EL := consts_1) hZ.alike Ex Fv
  refine own_st (fun t_ k_ => XS.aloadN X0.here hx rfl (hb hby d2_0) rfl rfl k_) ?_
  show own_Go p e below _ s₁ (mkF m 1 #[.val (.ref x), .val (.ref b)] [(.ref x)])
  refine own_st (fun t_ k_ => XS.aloadN X0.here hx rfl (hb hby d2_1) rfl rfl k_) ?_
  show own_Go p e below _ s₁ (mkF m 2 #[.val (.ref x), .val (.ref b)] [(.ref b), (.ref x)])
  refine own_st (fun t_ k_ => XS.iconst X0.here hx rfl (hb hby d2_2) k_) ?_
  show own_Go p e below _ s₁ (mkF m 3 #[.val (.ref x), .val (.ref b)] [(.int (0 : Int32)), (.ref b), (.ref x)])
  refine own_st (fun t_ k_ => XS.aloadN X0.here hx rfl (hb hby d2_3) rfl rfl k_) ?_
  show own_Go p e below _ s₁ (mkF m 4 #[.val (.ref x), .val (.ref b)] [(.ref b), (.int (0 : Int32)), (.ref b), (.ref x)])
  obtain ⟨cl1, Ar1, -, S1, N1', -, -⟩ := Ab
  refine own_st (fun t_ k_ => X0.arraylength hx (by rw [e0]; exact Ar1.1) (State.isArrayOf_alike hZ.alike Ar1.2.1) (g := (mkF m 4 #[.val (.ref x), .val (.ref b)] [(.ref b), (.int (0 : Int32)), (.ref b), (.ref x)])) rfl rfl (hb hby d2_4) t_ k_) ?_
  rw [len_of S1 N1']
  show own_Go p e below _ s₁ (mkF m 5 #[.val (.ref x), .val (.ref b)] [(.int (0 : Int32)), (.int (0 : Int32)), (.ref b), (.ref x)])
  refine own_st (fun t_ k_ => XS.aconstNull X0.here hx rfl (hb hby d2_5) k_) ?_
  show own_Go p e below _ s₁ (mkF m 6 #[.val (.ref x), .val (.ref b)] [.null, (.int (0 : Int32)), (.int (0 : Int32)), (.ref b), (.ref x)])
  refine own_callNS X0 hx (y := (⟨"java/lang/String", "<init>", "([CIILjava/lang/Void;)V"⟩ : MethodName)) rfl hown (mvT hZ (hw _ (List.mem_of_getElem? (i := 11) rfl))) (mvT hZ (hw _ (List.mem_of_getElem? (i := 12) rfl))) (mvT hZ (hw _ (List.mem_of_getElem? (i := 14) rfl))) (by decide) (backOfSH (W := 0) (rmE1 l Z a0 hw [] x b h0 n0 (Nat.le_trans Z0 (Keep.refl h0 [x]).1) g_x Ex Fv Fc) hZ (hw _ (List.mem_of_getElem? (i := 14) rfl)) (hw _ (List.mem_of_getElem? (i := 6) rfl)) (by decide) (by decide) hEL (own_Bk.ch B0)) (a := x) (g := (mkF m 6 #[.val (.ref x), .val (.ref b)] [.null, (.int (0 : Int32)), (.int (0 : Int32)), (.ref b), (.ref x)])) rfl (by rw [hml]; rfl) (argsL := [(.ref b), (.int (0 : Int32)), (.int (0 : Int32)), .null]) (rest := []) (lenOf pd_0 rfl) rfl (by show 2 * 0 + _ ≤ _; exact Nat.le_of_eq rfl) (hb hby d2_6) rfl e0 (by decide) (by decide) hZ B0 ?_
  rintro v2 T2 L2 X2 ⟨rfl, Nq2, Kq2, Eq2, Cq2, t2, kb2, nt2, Vq2, Aq2⟩ CH2 B2 hZ hown
  have N2 := Fr.app N0 Nq2
  have K2 : Keep h0 T2.heap [x] := (Keep.refl h0 [x]).trans Kq2 (allS (Or.inl (List.mem_of_getElem? (i := 0) rfl)) all0)
  show own_Go p e below _ T2 (mkF m 9 #[.val (.ref x), .val (.ref b)] [])
  refine own_ret0S X2 hx hlk hZ hEL rfl hh B2 Bd.returns (hb hby d2_9) ?_ (by decide) (by decide)
  show QE Z x h0 n0 _ T2.heap _
  exact ⟨rfl, N2, K2, Eq2, Cq2, t2, kb2, nt2, Vq2, Aq2⟩
def QD (Z : State) (h0 : Heap) (n0 : Nat) (v : Option Value) (h : Heap) (L : List Loc) : Prop := ∃ x : Addr, v = some (.ref x) ∧ Fr n0 L ∧ Keep h0 h [] ∧ h0.size ≤ x ∧ Exa Z h x "java/lang/String"
theorem d3_0 : decode method_3_code 0 = .ok (.iload_n 0, 1) := by decide +kernel
theorem d3_1 : decode method_3_code 1 = .ok (.ifCond .ne 14, 3) := by decide +kernel
theorem d3_15 : decode method_3_code 15 = .ok (.iload_n 0, 1) := by decide +kernel
theorem d3_16 : decode method_3_code 16 = .ok (.iconst 1, 1) := by decide +kernel
theorem d3_17 : decode method_3_code 17 = .ok (.if_icmp .ne 28, 3) := by decide +kernel
theorem d3_45 : decode method_3_code 45 = .ok (.iload_n 0, 1) := by decide +kernel
theorem d3_46 : decode method_3_code 46 = .ok (.iconst 2, 1) := by decide +kernel
theorem d3_47 : decode method_3_code 47 = .ok (.if_icmp .ne 38, 3) := by decide +kernel
theorem d3_85 : decode method_3_code 85 = .ok (.iconst 3, 1) := by decide +kernel
theorem d3_86 : decode method_3_code 86 = .ok (.newarray .char, 2) := by decide +kernel
theorem d3_88 : decode method_3_code 88 = .ok (.astore 4, 2) := by decide +kernel
theorem d3_90 : decode method_3_code 90 = .ok (.aload 4, 2) := by decide +kernel
theorem d3_92 : decode method_3_code 92 = .ok (.iconst 0, 1) := by decide +kernel
theorem d3_93 : decode method_3_code 93 = .ok (.iload_n 1, 1) := by decide +kernel
theorem d3_94 : decode method_3_code 94 = .ok (.sipush 255, 3) := by decide +kernel
theorem d3_97 : decode method_3_code 97 = .ok (.iand, 1) := by decide +kernel
theorem d3_98 : decode method_3_code 98 = .ok (.i2c, 1) := by decide +kernel
theorem d3_99 : decode method_3_code 99 = .ok (.castore, 1) := by decide +kernel
theorem d3_100 : decode method_3_code 100 = .ok (.aload 4, 2) := by decide +kernel
theorem d3_102 : decode method_3_code 102 = .ok (.iconst 1, 1) := by decide +kernel
theorem d3_103 : decode method_3_code 103 = .ok (.iload_n 2, 1) := by decide +kernel
theorem d3_104 : decode method_3_code 104 = .ok (.sipush 255, 3) := by decide +kernel
theorem d3_107 : decode method_3_code 107 = .ok (.iand, 1) := by decide +kernel
theorem d3_108 : decode method_3_code 108 = .ok (.i2c, 1) := by decide +kernel
theorem d3_109 : decode method_3_code 109 = .ok (.castore, 1) := by decide +kernel
theorem d3_110 : decode method_3_code 110 = .ok (.aload 4, 2) := by decide +kernel
theorem d3_112 : decode method_3_code 112 = .ok (.iconst 2, 1) := by decide +kernel
theorem d3_113 : decode method_3_code 113 = .ok (.iload_n 3, 1) := by decide +kernel
theorem d3_114 : decode method_3_code 114 = .ok (.sipush 255, 3) := by decide +kernel
theorem d3_117 : decode method_3_code 117 = .ok (.iand, 1) := by decide +kernel
theorem d3_118 : decode method_3_code 118 = .ok (.i2c, 1) := by decide +kernel
theorem d3_119 : decode method_3_code 119 = .ok (.castore, 1) := by decide +kernel
theorem d3_120 : decode method_3_code 120 = .ok (.new 33, 3) := by decide +kernel
theorem d3_123 : decode method_3_code 123 = .ok (.dup, 1) := by decide +kernel
theorem d3_124 : decode method_3_code 124 = .ok (.aload 4, 2) := by decide +kernel
theorem d3_126 : decode method_3_code 126 = .ok (.invokespecial 38, 3) := by decide +kernel
theorem pd_1 : parseMethodDescriptor "([C)V" = some ⟨[(.array .char)], none⟩ := by decide +kernel
theorem d3_129 : decode method_3_code 129 = .ok (.areturn, 1) := by decide +kernel
theorem d3_50 : decode method_3_code 50 = .ok (.iconst 2, 1) := by decide +kernel
theorem d3_51 : decode method_3_code 51 = .ok (.newarray .char, 2) := by decide +kernel
theorem d3_53 : decode method_3_code 53 = .ok (.astore 4, 2) := by decide +kernel
theorem d3_55 : decode method_3_code 55 = .ok (.aload 4, 2) := by decide +kernel
theorem d3_57 : decode method_3_code 57 = .ok (.iconst 0, 1) := by decide +kernel
theorem d3_58 : decode method_3_code 58 = .ok (.iload_n 1, 1) := by decide +kernel
theorem d3_59 : decode method_3_code 59 = .ok (.sipush 255, 3) := by decide +kernel
theorem d3_62 : decode method_3_code 62 = .ok (.iand, 1) := by decide +kernel
theorem d3_63 : decode method_3_code 63 = .ok (.i2c, 1) := by decide +kernel
theorem d3_64 : decode method_3_code 64 = .ok (.castore, 1) := by decide +kernel
theorem d3_65 : decode method_3_code 65 = .ok (.aload 4, 2) := by decide +kernel
theorem d3_67 : decode method_3_code 67 = .ok (.iconst 1, 1) := by decide +kernel
theorem d3_68 : decode method_3_code 68 = .ok (.iload_n 2, 1) := by decide +kernel
theorem d3_69 : decode method_3_code 69 = .ok (.sipush 255, 3) := by decide +kernel
theorem d3_72 : decode method_3_code 72 = .ok (.iand, 1) := by decide +kernel
theorem d3_73 : decode method_3_code 73 = .ok (.i2c, 1) := by decide +kernel
theorem d3_74 : decode method_3_code 74 = .ok (.castore, 1) := by decide +kernel
theorem d3_75 : decode method_3_code 75 = .ok (.new 33, 3) := by decide +kernel
theorem d3_78 : decode method_3_code 78 = .ok (.dup, 1) := by decide +kernel
theorem d3_79 : decode method_3_code 79 = .ok (.aload 4, 2) := by decide +kernel
theorem d3_81 : decode method_3_code 81 = .ok (.invokespecial 38, 3) := by decide +kernel
theorem d3_84 : decode method_3_code 84 = .ok (.areturn, 1) := by decide +kernel
theorem d3_20 : decode method_3_code 20 = .ok (.iconst 1, 1) := by decide +kernel
theorem d3_21 : decode method_3_code 21 = .ok (.newarray .char, 2) := by decide +kernel
theorem d3_23 : decode method_3_code 23 = .ok (.astore 4, 2) := by decide +kernel
theorem d3_25 : decode method_3_code 25 = .ok (.aload 4, 2) := by decide +kernel
theorem d3_27 : decode method_3_code 27 = .ok (.iconst 0, 1) := by decide +kernel
theorem d3_28 : decode method_3_code 28 = .ok (.iload_n 1, 1) := by decide +kernel
theorem d3_29 : decode method_3_code 29 = .ok (.sipush 255, 3) := by decide +kernel
theorem d3_32 : decode method_3_code 32 = .ok (.iand, 1) := by decide +kernel
theorem d3_33 : decode method_3_code 33 = .ok (.i2c, 1) := by decide +kernel
theorem d3_34 : decode method_3_code 34 = .ok (.castore, 1) := by decide +kernel
theorem d3_35 : decode method_3_code 35 = .ok (.new 33, 3) := by decide +kernel
theorem d3_38 : decode method_3_code 38 = .ok (.dup, 1) := by decide +kernel
theorem d3_39 : decode method_3_code 39 = .ok (.aload 4, 2) := by decide +kernel
theorem d3_41 : decode method_3_code 41 = .ok (.invokespecial 38, 3) := by decide +kernel
theorem d3_44 : decode method_3_code 44 = .ok (.areturn, 1) := by decide +kernel
theorem d3_4 : decode method_3_code 4 = .ok (.new 33, 3) := by decide +kernel
theorem d3_7 : decode method_3_code 7 = .ok (.dup, 1) := by decide +kernel
theorem d3_8 : decode method_3_code 8 = .ok (.iconst 0, 1) := by decide +kernel
theorem d3_9 : decode method_3_code 9 = .ok (.newarray .char, 2) := by decide +kernel
theorem d3_11 : decode method_3_code 11 = .ok (.invokespecial 38, 3) := by decide +kernel
theorem d3_14 : decode method_3_code 14 = .ok (.areturn, 1) := by decide +kernel
theorem pn_1 : plainName "com/example/lean_pubsub/leanpubsub/auth/UsersAuthenticatedNamePinLaw" = true := by first | (simp [plainName, overriddenIn]; done) | decide +kernel
theorem ef_rmD (m : MethodId) (x0 : Int32) (x1 : Int32) (x2 : Int32) (x3 : Int32) : entryFrame m #[(.int x0), (.int x1), (.int x2), (.int x3)] 5 = mkF m 0 #[.val (.int x0), .val (.int x1), .val (.int x2), .val (.int x3), .unset] [] := by first | (simp [entryFrame, mkF, argsToLocals, Value.category]; done) | rfl
set_option maxRecDepth 65536 in
set_option maxHeartbeats 40000000 in
theorem rmD (l : Launch) (Z : State) (a0 : Array Value) (hw : ∀ d ∈ tables_1, d.before a0 Z = true) (ws : List Jvm.Cond) (len c0 c1 c2 G : Int32) (h0 : Heap) (n0 : Nat) (Z0 : n0 ≤ h0.size) (SC : Sta Z Z.heap "java/lang/String" "COMPACT_STRINGS" "Z" (.int G)) (hCS : ¬ G = 0) (O0 : Old Z n0 h0) :
    MetFree l (⟨"com/example/lean_pubsub/leanpubsub/auth/UsersAuthenticatedNamePinLaw", "draw", "(IIII)Ljava/lang/String;"⟩ : MethodName) (head1 (Jvm.Cond.code (⟨"com/example/lean_pubsub/leanpubsub/auth/UsersAuthenticatedNamePinLaw", "draw", "(IIII)Ljava/lang/String;"⟩ : MethodName) method_3_code 5 (some (.object "java/lang/String")) :: ws) ({ frames := 4, cells := 6, slots := 12, locals := 66 } : Room)) (fun a_ U_ => a_ = #[(.int len), (.int c0), (.int c1), (.int c2)] ∧ Z.Warmed39 U_.vm ∧ U_.heap = h0 ∧ CHv Z consts_1 U_.vm h0) (fun _ _ _ _ _ => True) (fun _ U_ o_ U'_ => ∃ v_ L_, o_ = .returned v_ ∧ QD Z h0 n0 v_ U'_.heap L_ ∧ CHr Z consts_1 U_.vm U_.heap U'_.vm U'_.heap ∧ ReturnedEndW U_ o_ U'_ L_ ({ frames := 4, cells := 6, slots := 12, locals := 66 } : Room).cells ({ frames := 4, cells := 6, slots := 12, locals := 66 } : Room).slots) := by
  refine MetFree.of_bodySF (plainFor_of_name pn_1) hisR ?_
  intro p e s m args below meth c s₁ Bd hml0 hP hK
  obtain ⟨rfl, hZ, hh, hC0⟩ := hP
  have hx := Bd.exec
  have hby := Bd.bytes
  have hml : c.maxLocals = 5 := hml0
  have hown : s.vm.findClass "com/example/lean_pubsub/leanpubsub/auth/UsersAuthenticatedNamePinLaw" = some m.cls := findClass_of_methodNamed Bd.named
  have hnm := (name_of_methodNamed Bd.named Bd.method).1
  have hlk := BodyLoose.notSynchronized Bd
  have X0 : Stand p l e ({ frames := 4, cells := 6, slots := 12, locals := 66 } : Room) (s.setVm s.vm) m #[(.int len), (.int c0), (.int c1), (.int c2)] below meth c s₁ [] 0 0 := Stand.of_body Bd
  have e0 : s₁.heap = h0 := by rw [← hh, Bd.state]; rfl
  have N0 := Fr.nil n0
  have hEL := own_EL hw
  have B0 : own_Bk Z consts_1 s h0 s.vm h0 := own_Bk.start hC0
  refine own_entry (P := own_EndS Z consts_1 s (QD Z h0 n0) ({ frames := 4, cells := 6, slots := 12, locals := 66 } : Room).cells ({ frames := 4, cells := 6, slots := 12, locals := 66 } : Room).slots) (ef_rmD m len c0 c1 c2) ?_
  show own_Go p e below _ s₁ (mkF m 0 #[.val (.int len), .val (.int c0), .val (.int c1), .val (.int c2), .unset] [])
  refine own_st (fun t_ k_ => XS.iloadN X0.here hx rfl (hb hby d3_0) rfl k_) ?_
  show own_Go p e below _ s₁ (mkF m 1 #[.val (.int len), .val (.int c0), .val (.int c1), .val (.int c2), .unset] [(.int len)])
  by_cases hc1_1 : len = (0 : Int32)
  · refine own_st (fun t_ k_ => XS.ifNo X0.here hx rfl (hb hby d3_1) rfl ((if0 _ _).trans (teq hc1_1).2) k_) ?_
    show own_Go p e below _ s₁ (mkF m 4 #[.val (.int len), .val (.int c0), .val (.int c1), .val (.int c2), .unset] [])
    obtain ⟨T37, h37, X37, e37, E37, A37, D37, cel37, st37⟩ := newO X0 hx hZ hown (hw _ (List.mem_of_getElem? (i := 4) rfl)) (hw _ (List.mem_of_getElem? (i := 5) rfl)) (hw _ (List.mem_of_getElem? (i := 6) rfl)) e0 (g := (mkF m 4 #[.val (.int len), .val (.int c0), .val (.int c1), .val (.int c2), .unset] [])) rfl (hb hby d3_4) (by decide) (by decide)
    obtain ⟨nb37, g37⟩ : ∃ z, z = h0.size := ⟨_, rfl⟩
    rw [← g37] at A37 D37 cel37 st37
    refine own_st st37 ?_
    have g_nb37 : n0 ≤ nb37 := Nat.le_trans (Nat.le_trans Z0 (Keep.refl h0 []).1) (Nat.le_of_eq g37.symm)
    have K37 : Keep h0 h37 [] := (Keep.refl h0 []).ext E37
    have sz_nb37 : h0.size ≤ nb37 := Nat.le_trans (Keep.refl h0 []).1 (Nat.le_of_eq g37.symm)
    have B37 := own_Bk.ext E37 B0
    have Sf37 := Safe.ext E37 (own_Bk.ch B0) (Safe.new (Nat.le_of_eq g37.symm))
    have F37_value : Fld Z h37 nb37 "java/lang/String" "value" "[B" .null := D37 (Or.inr (hw _ (List.mem_of_getElem? (i := 20) rfl))) (ty := (.array .byte)) (by decide)
    have F37_coder : Fld Z h37 nb37 "java/lang/String" "coder" "B" (.int (0 : Int32)) := D37 (Or.inr (hw _ (List.mem_of_getElem? (i := 21) rfl))) (ty := .byte) (by decide)
    show own_Go p e below _ T37 (mkF m 7 #[.val (.int len), .val (.int c0), .val (.int c1), .val (.int c2), .unset] [(.ref nb37)])
    refine own_st (fun t_ k_ => XS.dup X37.here hx rfl (hb hby d3_7) rfl rfl k_) ?_
    show own_Go p e below _ T37 (mkF m 8 #[.val (.int len), .val (.int c0), .val (.int c1), .val (.int c2), .unset] [(.ref nb37), (.ref nb37)])
    refine own_st (fun t_ k_ => XS.iconst X37.here hx rfl (hb hby d3_8) k_) ?_
    show own_Go p e below _ T37 (mkF m 9 #[.val (.int len), .val (.int c0), .val (.int c1), .val (.int c2), .unset] [(.int (0 : Int32)), (.ref nb37), (.ref nb37)])
    obtain ⟨T38, h38, k38, X38, e38, E38, A38, st38⟩ := newP X37 hx hZ (hw _ (List.mem_of_getElem? (i := 7) rfl)) e37 (g := (mkF m 9 #[.val (.int len), .val (.int c0), .val (.int c1), .val (.int c2), .unset] [(.int (0 : Int32)), (.ref nb37), (.ref nb37)])) rfl (hb hby d3_9) rfl (by decide) (cap := 0) (by decide) (by decide) (by decide) (by decide)
    obtain ⟨nb38, g38⟩ : ∃ z, z = h37.size := ⟨_, rfl⟩
    rw [← g38] at A38 st38
    refine own_st st38 ?_
    have g_nb38 : n0 ≤ nb38 := Nat.le_trans (Nat.le_trans Z0 K37.1) (Nat.le_of_eq g38.symm)
    have K38 : Keep h0 h38 [] := K37.ext E38
    have sz_nb38 : h0.size ≤ nb38 := Nat.le_trans K37.1 (Nat.le_of_eq g38.symm)
    have B38 := own_Bk.ext E38 B37
    have Sf38 := Safe.ext E38 (own_Bk.ch B37) (Safe.new (Nat.le_of_eq g38.symm))
    have V38 : Arv Z h38 nb38 k38 .char (0 : Int32) [] (.int (0 : Int32)) := (Arv.new A38 (by decide)).pad (pad_rep [] (.int (0 : Int32)) 0)
    show own_Go p e below _ T38 (mkF m 11 #[.val (.int len), .val (.int c0), .val (.int c1), .val (.int c2), .unset] [(.ref nb38), (.ref nb37), (.ref nb37)])
    have f40 := (Exa.ext E38 A37)
    have f41 := (Fld.ext E38 F37_value)
    have f42 := (Fld.ext E38 F37_coder)
    have f44 := (Safe.ext E38 (own_Bk.ch B37) Sf37)
    refine own_callNS X38 hx (y := (⟨"java/lang/String", "<init>", "([C)V"⟩ : MethodName)) rfl hown (mvT hZ (hw _ (List.mem_of_getElem? (i := 8) rfl))) (mvT hZ (hw _ (List.mem_of_getElem? (i := 9) rfl))) (mvT hZ (hw _ (List.mem_of_getElem? (i := 10) rfl))) (by decide) (backOfSH (W := 1) (rmE0 l Z a0 hw [] nb37 nb38 k38 h38 n0 (Nat.le_trans Z0 K38.1) g_nb37 f40 f41 f42 V38) hZ (hw _ (List.mem_of_getElem? (i := 10) rfl)) (hw _ (List.mem_of_getElem? (i := 6) rfl)) (by decide) (by decide) hEL (own_Bk.ch B38)) (a := nb37) (g := (mkF m 11 #[.val (.int len), .val (.int c0), .val (.int c1), .val (.int c2), .unset] [(.ref nb38), (.ref nb37), (.ref nb37)])) rfl (by rw [hml]; rfl) (argsL := [(.ref nb38)]) (rest := [(.ref nb37)]) (lenOf pd_1 rfl) rfl (by show 2 * 0 + _ ≤ _; exact Nat.le_of_eq rfl) (hb hby d3_11) rfl e38 (by decide) (by decide) hZ B38 ?_
    rintro v43 T43 L43 X43 ⟨rfl, Nq43, Kq43, Eq43, Cq43, t43, kb43, nt43, Vq43, Aq43⟩ CH43 B43 hZ hown
    have N43 := Fr.app N0 Nq43
    have K43 : Keep h0 T43.heap [] := K38.trans Kq43 (allS (Or.inr sz_nb37) all0)
    show own_Go p e below _ T43 (mkF m 14 #[.val (.int len), .val (.int c0), .val (.int c1), .val (.int c2), .unset] [(.ref nb37)])
    have hp43 := own_lnil
    refine own_retAS X43 hx hlk hZ hEL rfl hh B43 Bd.returns rfl rfl (hb hby d3_14) ?_ (by decide) (by decide)
    show QD Z h0 n0 _ T43.heap _
    exact ⟨nb37, rfl, N43, K43, sz_nb37, Eq43⟩
  · refine own_st (fun t_ k_ => XS.ifYes X0.here hx rfl (pc0 := 1) (pc' := 15) rfl (hb hby d3_1) rfl ((if0 _ _).trans (feq hc1_1).2) (by decide) (by decide) k_) ?_
    show own_Go p e below _ s₁ (mkF m 15 #[.val (.int len), .val (.int c0), .val (.int c1), .val (.int c2), .unset] [])
    refine own_st (fun t_ k_ => XS.iloadN X0.here hx rfl (hb hby d3_15) rfl k_) ?_
    show own_Go p e below _ s₁ (mkF m 16 #[.val (.int len), .val (.int c0), .val (.int c1), .val (.int c2), .unset] [(.int len)])
    refine own_st (fun t_ k_ => XS.iconst X0.here hx rfl (hb hby d3_16) k_) ?_
    show own_Go p e below _ s₁ (mkF m 17 #[.val (.int len), .val (.int c0), .val (.int c1), .val (.int c2), .unset] [(.int (1 : Int32)), (.int len)])
    by_cases hc17_2 : len = (1 : Int32)
    · refine own_st (fun t_ k_ => XS.icmpNo X0.here hx rfl (hb hby d3_17) rfl (teq hc17_2).2 k_) ?_
      show own_Go p e below _ s₁ (mkF m 20 #[.val (.int len), .val (.int c0), .val (.int c1), .val (.int c2), .unset] [])
      refine own_st (fun t_ k_ => XS.iconst X0.here hx rfl (hb hby d3_20) k_) ?_
      show own_Go p e below _ s₁ (mkF m 21 #[.val (.int len), .val (.int c0), .val (.int c1), .val (.int c2), .unset] [(.int (1 : Int32))])
      obtain ⟨T29, h29, k29, X29, e29, E29, A29, st29⟩ := newP X0 hx hZ (hw _ (List.mem_of_getElem? (i := 7) rfl)) e0 (g := (mkF m 21 #[.val (.int len), .val (.int c0), .val (.int c1), .val (.int c2), .unset] [(.int (1 : Int32))])) rfl (hb hby d3_21) rfl (by decide) (cap := 1) (by decide) (by decide) (by decide) (by decide)
      obtain ⟨nb29, g29⟩ : ∃ z, z = h0.size := ⟨_, rfl⟩
      rw [← g29] at A29 st29
      refine own_st st29 ?_
      have g_nb29 : n0 ≤ nb29 := Nat.le_trans (Nat.le_trans Z0 (Keep.refl h0 []).1) (Nat.le_of_eq g29.symm)
      have K29 : Keep h0 h29 [] := (Keep.refl h0 []).ext E29
      have sz_nb29 : h0.size ≤ nb29 := Nat.le_trans (Keep.refl h0 []).1 (Nat.le_of_eq g29.symm)
      have B29 := own_Bk.ext E29 B0
      have Sf29 := Safe.ext E29 (own_Bk.ch B0) (Safe.new (Nat.le_of_eq g29.symm))
      have V29 : Arv Z h29 nb29 k29 .char (1 : Int32) [(.int (0 : Int32))] (.int (0 : Int32)) := (Arv.new A29 (by decide)).pad (pad_rep [] (.int (0 : Int32)) 1)
      show own_Go p e below _ T29 (mkF m 23 #[.val (.int len), .val (.int c0), .val (.int c1), .val (.int c2), .unset] [(.ref nb29)])
      refine own_st (fun t_ k_ => XS.astore X29.here hx rfl (hb hby d3_23) rfl rfl (l' := #[.val (.int len), .val (.int c0), .val (.int c1), .val (.int c2), .val (.ref nb29)]) rfl k_) ?_
      show own_Go p e below _ T29 (mkF m 25 #[.val (.int len), .val (.int c0), .val (.int c1), .val (.int c2), .val (.ref nb29)] [])
      refine own_st (fun t_ k_ => XS.aload X29.here hx rfl (hb hby d3_25) rfl rfl k_) ?_
      show own_Go p e below _ T29 (mkF m 27 #[.val (.int len), .val (.int c0), .val (.int c1), .val (.int c2), .val (.ref nb29)] [(.ref nb29)])
      refine own_st (fun t_ k_ => XS.iconst X29.here hx rfl (hb hby d3_27) k_) ?_
      show own_Go p e below _ T29 (mkF m 28 #[.val (.int len), .val (.int c0), .val (.int c1), .val (.int c2), .val (.ref nb29)] [(.int (0 : Int32)), (.ref nb29)])
      refine own_st (fun t_ k_ => XS.iloadN X29.here hx rfl (hb hby d3_28) rfl k_) ?_
      show own_Go p e below _ T29 (mkF m 29 #[.val (.int len), .val (.int c0), .val (.int c1), .val (.int c2), .val (.ref nb29)] [(.int c0), (.int (0 : Int32)), (.ref nb29)])
      refine own_st (fun t_ k_ => XS.sipush X29.here hx rfl (hb hby d3_29) k_) ?_
      show own_Go p e below _ T29 (mkF m 32 #[.val (.int len), .val (.int c0), .val (.int c1), .val (.int c2), .val (.ref nb29)] [(.int (255 : Int32)), (.int c0), (.int (0 : Int32)), (.ref nb29)])
      refine own_st (fun t_ k_ => XS.iand X29.here hx rfl (hb hby d3_32) rfl k_) ?_
      show own_Go p e below _ T29 (mkF m 33 #[.val (.int len), .val (.int c0), .val (.int c1), .val (.int c2), .val (.ref nb29)] [(.int (c0 &&& (255 : Int32))), (.int (0 : Int32)), (.ref nb29)])
      refine own_st (fun t_ k_ => XS.i2c X29.here hx rfl (hb hby d3_33) rfl k_) ?_
      show own_Go p e below _ T29 (mkF m 34 #[.val (.int len), .val (.int c0), .val (.int c1), .val (.int c2), .val (.ref nb29)] [(.int ((c0 &&& (255 : Int32)).toUInt32.toUInt16.toUInt32.toInt32)), (.int (0 : Int32)), (.ref nb29)])
      obtain ⟨cl30, Ar30, q30, S30, N30', H30, G30⟩ := V29
      have hin30 : ¬ ((0 : Int32) < 0 ∨ cl30.slots.size ≤ ((0 : Int32)).toNatClampNeg) := inb_of S30 ⟨by decide, by decide⟩
      obtain ⟨T30, h30, X30, e30, W30, st30⟩ := stC X29 hx hZ e29 Ar30 (j := (0 : Int32)) hin30 (g := (mkF m 34 #[.val (.int len), .val (.int c0), .val (.int c1), .val (.int c2), .val (.ref nb29)] [(.int ((c0 &&& (255 : Int32)).toUInt32.toUInt16.toUInt32.toInt32)), (.int (0 : Int32)), (.ref nb29)])) rfl rfl (hb hby d3_34)
      have V30 : Arv Z h30 nb29 k29 .char (1 : Int32) [(.int (nar .char ((c0 &&& (255 : Int32)).toUInt32.toUInt16.toUInt32.toInt32)))] (.int (0 : Int32)) := Arv.set Ar30 q30 S30 N30' H30 G30 (fits_nar_char _) W30 0 rfl (Nat.le_of_ble_eq_true rfl)
      refine own_st st30 ?_
      have Sw30 := Sf29
      have B30 := own_Bk.wr W30 Sw30 B29
      have N30 := Fr.snoc X30 N0 g_nb29
      have K30 : Keep h0 h30 [] := K29.wr W30 (Or.inr sz_nb29)
      show own_Go p e below _ T30 (mkF m 35 #[.val (.int len), .val (.int c0), .val (.int c1), .val (.int c2), .val (.ref nb29)] [])
      obtain ⟨T31, h31, X31, e31, E31, A31, D31, cel31, st31⟩ := newO X30 hx hZ hown (hw _ (List.mem_of_getElem? (i := 4) rfl)) (hw _ (List.mem_of_getElem? (i := 5) rfl)) (hw _ (List.mem_of_getElem? (i := 6) rfl)) e30 (g := (mkF m 35 #[.val (.int len), .val (.int c0), .val (.int c1), .val (.int c2), .val (.ref nb29)] [])) rfl (hb hby d3_35) (by decide) (by decide)
      obtain ⟨nb31, g31⟩ : ∃ z, z = h30.size := ⟨_, rfl⟩
      rw [← g31] at A31 D31 cel31 st31
      refine own_st st31 ?_
      have g_nb31 : n0 ≤ nb31 := Nat.le_trans (Nat.le_trans Z0 K30.1) (Nat.le_of_eq g31.symm)
      have K31 : Keep h0 h31 [] := K30.ext E31
      have sz_nb31 : h0.size ≤ nb31 := Nat.le_trans K30.1 (Nat.le_of_eq g31.symm)
      have B31 := own_Bk.ext E31 B30
      have Sf31 := Safe.ext E31 (own_Bk.ch B30) (Safe.new (Nat.le_of_eq g31.symm))
      have F31_value : Fld Z h31 nb31 "java/lang/String" "value" "[B" .null := D31 (Or.inr (hw _ (List.mem_of_getElem? (i := 20) rfl))) (ty := (.array .byte)) (by decide)
      have F31_coder : Fld Z h31 nb31 "java/lang/String" "coder" "B" (.int (0 : Int32)) := D31 (Or.inr (hw _ (List.mem_of_getElem? (i := 21) rfl))) (ty := .byte) (by decide)
      show own_Go p e below _ T31 (mkF m 38 #[.val (.int len), .val (.int c0), .val (.int c1), .val (.int c2), .val (.ref nb29)] [(.ref nb31)])
      refine own_st (fun t_ k_ => XS.dup X31.here hx rfl (hb hby d3_38) rfl rfl k_) ?_
      show own_Go p e below _ T31 (mkF m 39 #[.val (.int len), .val (.int c0), .val (.int c1), .val (.int c2), .val (.ref nb29)] [(.ref nb31), (.ref nb31)])
      refine own_st (fun t_ k_ => XS.aload X31.here hx rfl (hb hby d3_39) rfl rfl k_) ?_
      show own_Go p e below _ T31 (mkF m 41 #[.val (.int len), .val (.int c0), .val (.int c1), .val (.int c2), .val (.ref nb29)] [(.ref nb29), (.ref nb31), (.ref nb31)])
      have hp32 : ∀ c ∈ ([(nar .char ((c0 &&& (255 : Int32)).toUInt32.toUInt16.toUInt32.toInt32))] : List Int32), ¬ c < 0 ∧ ¬ (255 : Int32) < c := (own_lcons (own_and255 c0) own_lnil)
      have f33 := (V30.ext E31)
      have f34 := (O0.ext E29)
      have f35 := (f34.wr W30 g_nb29)
      have f36 := (f35.ext E31)
      refine own_callN X31 hx (y := (⟨"java/lang/String", "<init>", "([C)V"⟩ : MethodName)) rfl hown (mvT hZ (hw _ (List.mem_of_getElem? (i := 8) rfl))) (mvT hZ (hw _ (List.mem_of_getElem? (i := 9) rfl))) (mvT hZ (hw _ (List.mem_of_getElem? (i := 10) rfl))) (by decide) (StrChars.Road.backV (W := 1) hZ (own_words hw) (kI := 4) (hw _ (List.mem_of_getElem? (i := 5) rfl)) (cs := ([(nar .char ((c0 &&& (255 : Int32)).toUInt32.toUInt16.toUInt32.toInt32))] : List Int32)) (bs := ([(nar .char ((c0 &&& (255 : Int32)).toUInt32.toUInt16.toUInt32.toInt32))] : List Int32).map (fun c => c.toInt8.toInt32)) (n := 1) g_nb31 (Nat.le_trans Z0 K31.1) A31 F31_value F31_coder f33 (Sta.ext f36.2 SC) hCS rfl rfl (by decide) (by decide) hp32 rfl (by decide) (by decide)) (a := nb31) (g := (mkF m 41 #[.val (.int len), .val (.int c0), .val (.int c1), .val (.int c2), .val (.ref nb29)] [(.ref nb29), (.ref nb31), (.ref nb31)])) rfl (by rw [hml]; rfl) (argsL := [(.ref nb29)]) (rest := [(.ref nb31)]) (lenOf pd_1 rfl) rfl (by show 2 * 0 + _ ≤ _; exact Nat.le_of_eq rfl) (hb hby d3_41) rfl e31 (by decide) (by decide) ?_
      rintro v32 T32 L32 X32 ⟨rfl, Nq32, Kq32, Eq32, Cq32, t32, kb32, g_t32, gt32, nt32, Vq32, Aq32⟩
      have sz_t32 : h0.size ≤ t32 := Nat.le_trans K31.1 gt32
      have N32 := Fr.app N30 Nq32
      have K32 : Keep h0 T32.heap [] := K31.trans Kq32 (allS (Or.inr sz_nb31) all0)
      have Sk32 : ∀ x ∈ [nb31], _ := (sfS Sf31 sf0)
      have B32 := own_Bk.keep Kq32 Sk32 B31
      show own_Go p e below _ T32 (mkF m 44 #[.val (.int len), .val (.int c0), .val (.int c1), .val (.int c2), .val (.ref nb29)] [(.ref nb31)])
      refine own_retAS X32 hx hlk hZ hEL rfl hh B32 Bd.returns rfl rfl (hb hby d3_44) ?_ (by decide) (by decide)
      show QD Z h0 n0 _ T32.heap _
      exact ⟨nb31, rfl, N32, K32, sz_nb31, Eq32⟩
    · refine own_st (fun t_ k_ => XS.icmpYes X0.here hx rfl (pc0 := 17) (pc' := 45) rfl (hb hby d3_17) rfl (feq hc17_2).2 (by decide) (by decide) k_) ?_
      show own_Go p e below _ s₁ (mkF m 45 #[.val (.int len), .val (.int c0), .val (.int c1), .val (.int c2), .unset] [])
      refine own_st (fun t_ k_ => XS.iloadN X0.here hx rfl (hb hby d3_45) rfl k_) ?_
      show own_Go p e below _ s₁ (mkF m 46 #[.val (.int len), .val (.int c0), .val (.int c1), .val (.int c2), .unset] [(.int len)])
      refine own_st (fun t_ k_ => XS.iconst X0.here hx rfl (hb hby d3_46) k_) ?_
      show own_Go p e below _ s₁ (mkF m 47 #[.val (.int len), .val (.int c0), .val (.int c1), .val (.int c2), .unset] [(.int (2 : Int32)), (.int len)])
      by_cases hc47_3 : len = (2 : Int32)
      · refine own_st (fun t_ k_ => XS.icmpNo X0.here hx rfl (hb hby d3_47) rfl (teq hc47_3).2 k_) ?_
        show own_Go p e below _ s₁ (mkF m 50 #[.val (.int len), .val (.int c0), .val (.int c1), .val (.int c2), .unset] [])
        refine own_st (fun t_ k_ => XS.iconst X0.here hx rfl (hb hby d3_50) k_) ?_
        show own_Go p e below _ s₁ (mkF m 51 #[.val (.int len), .val (.int c0), .val (.int c1), .val (.int c2), .unset] [(.int (2 : Int32))])
        obtain ⟨T18, h18, k18, X18, e18, E18, A18, st18⟩ := newP X0 hx hZ (hw _ (List.mem_of_getElem? (i := 7) rfl)) e0 (g := (mkF m 51 #[.val (.int len), .val (.int c0), .val (.int c1), .val (.int c2), .unset] [(.int (2 : Int32))])) rfl (hb hby d3_51) rfl (by decide) (cap := 2) (by decide) (by decide) (by decide) (by decide)
        obtain ⟨nb18, g18⟩ : ∃ z, z = h0.size := ⟨_, rfl⟩
        rw [← g18] at A18 st18
        refine own_st st18 ?_
        have g_nb18 : n0 ≤ nb18 := Nat.le_trans (Nat.le_trans Z0 (Keep.refl h0 []).1) (Nat.le_of_eq g18.symm)
        have K18 : Keep h0 h18 [] := (Keep.refl h0 []).ext E18
        have sz_nb18 : h0.size ≤ nb18 := Nat.le_trans (Keep.refl h0 []).1 (Nat.le_of_eq g18.symm)
        have B18 := own_Bk.ext E18 B0
        have Sf18 := Safe.ext E18 (own_Bk.ch B0) (Safe.new (Nat.le_of_eq g18.symm))
        have V18 : Arv Z h18 nb18 k18 .char (2 : Int32) [(.int (0 : Int32)), (.int (0 : Int32))] (.int (0 : Int32)) := (Arv.new A18 (by decide)).pad (pad_rep [] (.int (0 : Int32)) 2)
        show own_Go p e below _ T18 (mkF m 53 #[.val (.int len), .val (.int c0), .val (.int c1), .val (.int c2), .unset] [(.ref nb18)])
        refine own_st (fun t_ k_ => XS.astore X18.here hx rfl (hb hby d3_53) rfl rfl (l' := #[.val (.int len), .val (.int c0), .val (.int c1), .val (.int c2), .val (.ref nb18)]) rfl k_) ?_
        show own_Go p e below _ T18 (mkF m 55 #[.val (.int len), .val (.int c0), .val (.int c1), .val (.int c2), .val (.ref nb18)] [])
        refine own_st (fun t_ k_ => XS.aload X18.here hx rfl (hb hby d3_55) rfl rfl k_) ?_
        show own_Go p e below _ T18 (mkF m 57 #[.val (.int len), .val (.int c0), .val (.int c1), .val (.int c2), .val (.ref nb18)] [(.ref nb18)])
        refine own_st (fun t_ k_ => XS.iconst X18.here hx rfl (hb hby d3_57) k_) ?_
        show own_Go p e below _ T18 (mkF m 58 #[.val (.int len), .val (.int c0), .val (.int c1), .val (.int c2), .val (.ref nb18)] [(.int (0 : Int32)), (.ref nb18)])
        refine own_st (fun t_ k_ => XS.iloadN X18.here hx rfl (hb hby d3_58) rfl k_) ?_
        show own_Go p e below _ T18 (mkF m 59 #[.val (.int len), .val (.int c0), .val (.int c1), .val (.int c2), .val (.ref nb18)] [(.int c0), (.int (0 : Int32)), (.ref nb18)])
        refine own_st (fun t_ k_ => XS.sipush X18.here hx rfl (hb hby d3_59) k_) ?_
        show own_Go p e below _ T18 (mkF m 62 #[.val (.int len), .val (.int c0), .val (.int c1), .val (.int c2), .val (.ref nb18)] [(.int (255 : Int32)), (.int c0), (.int (0 : Int32)), (.ref nb18)])
        refine own_st (fun t_ k_ => XS.iand X18.here hx rfl (hb hby d3_62) rfl k_) ?_
        show own_Go p e below _ T18 (mkF m 63 #[.val (.int len), .val (.int c0), .val (.int c1), .val (.int c2), .val (.ref nb18)] [(.int (c0 &&& (255 : Int32))), (.int (0 : Int32)), (.ref nb18)])
        refine own_st (fun t_ k_ => XS.i2c X18.here hx rfl (hb hby d3_63) rfl k_) ?_
        show own_Go p e below _ T18 (mkF m 64 #[.val (.int len), .val (.int c0), .val (.int c1), .val (.int c2), .val (.ref nb18)] [(.int ((c0 &&& (255 : Int32)).toUInt32.toUInt16.toUInt32.toInt32)), (.int (0 : Int32)), (.ref nb18)])
        obtain ⟨cl19, Ar19, q19, S19, N19', H19, G19⟩ := V18
        have hin19 : ¬ ((0 : Int32) < 0 ∨ cl19.slots.size ≤ ((0 : Int32)).toNatClampNeg) := inb_of S19 ⟨by decide, by decide⟩
        obtain ⟨T19, h19, X19, e19, W19, st19⟩ := stC X18 hx hZ e18 Ar19 (j := (0 : Int32)) hin19 (g := (mkF m 64 #[.val (.int len), .val (.int c0), .val (.int c1), .val (.int c2), .val (.ref nb18)] [(.int ((c0 &&& (255 : Int32)).toUInt32.toUInt16.toUInt32.toInt32)), (.int (0 : Int32)), (.ref nb18)])) rfl rfl (hb hby d3_64)
        have V19 : Arv Z h19 nb18 k18 .char (2 : Int32) [(.int (nar .char ((c0 &&& (255 : Int32)).toUInt32.toUInt16.toUInt32.toInt32))), (.int (0 : Int32))] (.int (0 : Int32)) := Arv.set Ar19 q19 S19 N19' H19 G19 (fits_nar_char _) W19 0 rfl (Nat.le_of_ble_eq_true rfl)
        refine own_st st19 ?_
        have Sw19 := Sf18
        have B19 := own_Bk.wr W19 Sw19 B18
        have N19 := Fr.snoc X19 N0 g_nb18
        have K19 : Keep h0 h19 [] := K18.wr W19 (Or.inr sz_nb18)
        show own_Go p e below _ T19 (mkF m 65 #[.val (.int len), .val (.int c0), .val (.int c1), .val (.int c2), .val (.ref nb18)] [])
        refine own_st (fun t_ k_ => XS.aload X19.here hx rfl (hb hby d3_65) rfl rfl k_) ?_
        show own_Go p e below _ T19 (mkF m 67 #[.val (.int len), .val (.int c0), .val (.int c1), .val (.int c2), .val (.ref nb18)] [(.ref nb18)])
        refine own_st (fun t_ k_ => XS.iconst X19.here hx rfl (hb hby d3_67) k_) ?_
        show own_Go p e below _ T19 (mkF m 68 #[.val (.int len), .val (.int c0), .val (.int c1), .val (.int c2), .val (.ref nb18)] [(.int (1 : Int32)), (.ref nb18)])
        refine own_st (fun t_ k_ => XS.iloadN X19.here hx rfl (hb hby d3_68) rfl k_) ?_
        show own_Go p e below _ T19 (mkF m 69 #[.val (.int len), .val (.int c0), .val (.int c1), .val (.int c2), .val (.ref nb18)] [(.int c1), (.int (1 : Int32)), (.ref nb18)])
        refine own_st (fun t_ k_ => XS.sipush X19.here hx rfl (hb hby d3_69) k_) ?_
        show own_Go p e below _ T19 (mkF m 72 #[.val (.int len), .val (.int c0), .val (.int c1), .val (.int c2), .val (.ref nb18)] [(.int (255 : Int32)), (.int c1), (.int (1 : Int32)), (.ref nb18)])
        refine own_st (fun t_ k_ => XS.iand X19.here hx rfl (hb hby d3_72) rfl k_) ?_
        show own_Go p e below _ T19 (mkF m 73 #[.val (.int len), .val (.int c0), .val (.int c1), .val (.int c2), .val (.ref nb18)] [(.int (c1 &&& (255 : Int32))), (.int (1 : Int32)), (.ref nb18)])
        refine own_st (fun t_ k_ => XS.i2c X19.here hx rfl (hb hby d3_73) rfl k_) ?_
        show own_Go p e below _ T19 (mkF m 74 #[.val (.int len), .val (.int c0), .val (.int c1), .val (.int c2), .val (.ref nb18)] [(.int ((c1 &&& (255 : Int32)).toUInt32.toUInt16.toUInt32.toInt32)), (.int (1 : Int32)), (.ref nb18)])
        obtain ⟨cl20, Ar20, q20, S20, N20', H20, G20⟩ := V19
        have hin20 : ¬ ((1 : Int32) < 0 ∨ cl20.slots.size ≤ ((1 : Int32)).toNatClampNeg) := inb_of S20 ⟨by decide, by decide⟩
        obtain ⟨T20, h20, X20, e20, W20, st20⟩ := stC X19 hx hZ e19 Ar20 (j := (1 : Int32)) hin20 (g := (mkF m 74 #[.val (.int len), .val (.int c0), .val (.int c1), .val (.int c2), .val (.ref nb18)] [(.int ((c1 &&& (255 : Int32)).toUInt32.toUInt16.toUInt32.toInt32)), (.int (1 : Int32)), (.ref nb18)])) rfl rfl (hb hby d3_74)
        have V20 : Arv Z h20 nb18 k18 .char (2 : Int32) [(.int (nar .char ((c0 &&& (255 : Int32)).toUInt32.toUInt16.toUInt32.toInt32))), (.int (nar .char ((c1 &&& (255 : Int32)).toUInt32.toUInt16.toUInt32.toInt32)))] (.int (0 : Int32)) := Arv.set Ar20 q20 S20 N20' H20 G20 (fits_nar_char _) W20 1 rfl (Nat.le_of_ble_eq_true rfl)
        refine own_st st20 ?_
        have f21 := (Safe.wr W19 Sw19 (own_Bk.ch B18) Sf18)
        have Sw20 := f21
        have B20 := own_Bk.wr W20 Sw20 B19
        have N20 := Fr.snoc X20 N19 g_nb18
        have K20 : Keep h0 h20 [] := K19.wr W20 (Or.inr sz_nb18)
        show own_Go p e below _ T20 (mkF m 75 #[.val (.int len), .val (.int c0), .val (.int c1), .val (.int c2), .val (.ref nb18)] [])
        obtain ⟨T22, h22, X22, e22, E22, A22, D22, cel22, st22⟩ := newO X20 hx hZ hown (hw _ (List.mem_of_getElem? (i := 4) rfl)) (hw _ (List.mem_of_getElem? (i := 5) rfl)) (hw _ (List.mem_of_getElem? (i := 6) rfl)) e20 (g := (mkF m 75 #[.val (.int len), .val (.int c0), .val (.int c1), .val (.int c2), .val (.ref nb18)] [])) rfl (hb hby d3_75) (by decide) (by decide)
        obtain ⟨nb22, g22⟩ : ∃ z, z = h20.size := ⟨_, rfl⟩
        rw [← g22] at A22 D22 cel22 st22
        refine own_st st22 ?_
        have g_nb22 : n0 ≤ nb22 := Nat.le_trans (Nat.le_trans Z0 K20.1) (Nat.le_of_eq g22.symm)
        have K22 : Keep h0 h22 [] := K20.ext E22
        have sz_nb22 : h0.size ≤ nb22 := Nat.le_trans K20.1 (Nat.le_of_eq g22.symm)
        have B22 := own_Bk.ext E22 B20
        have Sf22 := Safe.ext E22 (own_Bk.ch B20) (Safe.new (Nat.le_of_eq g22.symm))
        have F22_value : Fld Z h22 nb22 "java/lang/String" "value" "[B" .null := D22 (Or.inr (hw _ (List.mem_of_getElem? (i := 20) rfl))) (ty := (.array .byte)) (by decide)
        have F22_coder : Fld Z h22 nb22 "java/lang/String" "coder" "B" (.int (0 : Int32)) := D22 (Or.inr (hw _ (List.mem_of_getElem? (i := 21) rfl))) (ty := .byte) (by decide)
        show own_Go p e below _ T22 (mkF m 78 #[.val (.int len), .val (.int c0), .val (.int c1), .val (.int c2), .val (.ref nb18)] [(.ref nb22)])
        refine own_st (fun t_ k_ => XS.dup X22.here hx rfl (hb hby d3_78) rfl rfl k_) ?_
        show own_Go p e below _ T22 (mkF m 79 #[.val (.int len), .val (.int c0), .val (.int c1), .val (.int c2), .val (.ref nb18)] [(.ref nb22), (.ref nb22)])
        refine own_st (fun t_ k_ => XS.aload X22.here hx rfl (hb hby d3_79) rfl rfl k_) ?_
        show own_Go p e below _ T22 (mkF m 81 #[.val (.int len), .val (.int c0), .val (.int c1), .val (.int c2), .val (.ref nb18)] [(.ref nb18), (.ref nb22), (.ref nb22)])
        have hp23 : ∀ c ∈ ([(nar .char ((c0 &&& (255 : Int32)).toUInt32.toUInt16.toUInt32.toInt32)), (nar .char ((c1 &&& (255 : Int32)).toUInt32.toUInt16.toUInt32.toInt32))] : List Int32), ¬ c < 0 ∧ ¬ (255 : Int32) < c := (own_lcons (own_and255 c0) (own_lcons (own_and255 c1) own_lnil))
        have f24 := (V20.ext E22)
        have f25 := (O0.ext E18)
        have f26 := (f25.wr W19 g_nb18)
        have f27 := (f26.wr W20 g_nb18)
        have f28 := (f27.ext E22)
        refine own_callN X22 hx (y := (⟨"java/lang/String", "<init>", "([C)V"⟩ : MethodName)) rfl hown (mvT hZ (hw _ (List.mem_of_getElem? (i := 8) rfl))) (mvT hZ (hw _ (List.mem_of_getElem? (i := 9) rfl))) (mvT hZ (hw _ (List.mem_of_getElem? (i := 10) rfl))) (by decide) (StrChars.Road.backV (W := 1) hZ (own_words hw) (kI := 4) (hw _ (List.mem_of_getElem? (i := 5) rfl)) (cs := ([(nar .char ((c0 &&& (255 : Int32)).toUInt32.toUInt16.toUInt32.toInt32)), (nar .char ((c1 &&& (255 : Int32)).toUInt32.toUInt16.toUInt32.toInt32))] : List Int32)) (bs := ([(nar .char ((c0 &&& (255 : Int32)).toUInt32.toUInt16.toUInt32.toInt32)), (nar .char ((c1 &&& (255 : Int32)).toUInt32.toUInt16.toUInt32.toInt32))] : List Int32).map (fun c => c.toInt8.toInt32)) (n := 2) g_nb22 (Nat.le_trans Z0 K22.1) A22 F22_value F22_coder f24 (Sta.ext f28.2 SC) hCS rfl rfl (by decide) (by decide) hp23 rfl (by decide) (by decide)) (a := nb22) (g := (mkF m 81 #[.val (.int len), .val (.int c0), .val (.int c1), .val (.int c2), .val (.ref nb18)] [(.ref nb18), (.ref nb22), (.ref nb22)])) rfl (by rw [hml]; rfl) (argsL := [(.ref nb18)]) (rest := [(.ref nb22)]) (lenOf pd_1 rfl) rfl (by show 2 * 0 + _ ≤ _; exact Nat.le_of_eq rfl) (hb hby d3_81) rfl e22 (by decide) (by decide) ?_
        rintro v23 T23 L23 X23 ⟨rfl, Nq23, Kq23, Eq23, Cq23, t23, kb23, g_t23, gt23, nt23, Vq23, Aq23⟩
        have sz_t23 : h0.size ≤ t23 := Nat.le_trans K22.1 gt23
        have N23 := Fr.app N20 Nq23
        have K23 : Keep h0 T23.heap [] := K22.trans Kq23 (allS (Or.inr sz_nb22) all0)
        have Sk23 : ∀ x ∈ [nb22], _ := (sfS Sf22 sf0)
        have B23 := own_Bk.keep Kq23 Sk23 B22
        show own_Go p e below _ T23 (mkF m 84 #[.val (.int len), .val (.int c0), .val (.int c1), .val (.int c2), .val (.ref nb18)] [(.ref nb22)])
        refine own_retAS X23 hx hlk hZ hEL rfl hh B23 Bd.returns rfl rfl (hb hby d3_84) ?_ (by decide) (by decide)
        show QD Z h0 n0 _ T23.heap _
        exact ⟨nb22, rfl, N23, K23, sz_nb22, Eq23⟩
      · refine own_st (fun t_ k_ => XS.icmpYes X0.here hx rfl (pc0 := 47) (pc' := 85) rfl (hb hby d3_47) rfl (feq hc47_3).2 (by decide) (by decide) k_) ?_
        show own_Go p e below _ s₁ (mkF m 85 #[.val (.int len), .val (.int c0), .val (.int c1), .val (.int c2), .unset] [])
        refine own_st (fun t_ k_ => XS.iconst X0.here hx rfl (hb hby d3_85) k_) ?_
        show own_Go p e below _ s₁ (mkF m 86 #[.val (.int len), .val (.int c0), .val (.int c1), .val (.int c2), .unset] [(.int (3 : Int32))])
        obtain ⟨T4, h4, k4, X4, e4, E4, A4, st4⟩ := newP X0 hx hZ (hw _ (List.mem_of_getElem? (i := 7) rfl)) e0 (g := (mkF m 86 #[.val (.int len), .val (.int c0), .val (.int c1), .val (.int c2), .unset] [(.int (3 : Int32))])) rfl (hb hby d3_86) rfl (by decide) (cap := 3) (by decide) (by decide) (by decide) (by decide)
        obtain ⟨nb4, g4⟩ : ∃ z, z = h0.size := ⟨_, rfl⟩
        rw [← g4] at A4 st4
        refine own_st st4 ?_
        have g_nb4 : n0 ≤ nb4 := Nat.le_trans (Nat.le_trans Z0 (Keep.refl h0 []).1) (Nat.le_of_eq g4.symm)
        have K4 : Keep h0 h4 [] := (Keep.refl h0 []).ext E4
        have sz_nb4 : h0.size ≤ nb4 := Nat.le_trans (Keep.refl h0 []).1 (Nat.le_of_eq g4.symm)
        have B4 := own_Bk.ext E4 B0
        have Sf4 := Safe.ext E4 (own_Bk.ch B0) (Safe.new (Nat.le_of_eq g4.symm))
        have V4 : Arv Z h4 nb4 k4 .char (3 : Int32) [(.int (0 : Int32)), (.int (0 : Int32)), (.int (0 : Int32))] (.int (0 : Int32)) := (Arv.new A4 (by decide)).pad (pad_rep [] (.int (0 : Int32)) 3)
        show own_Go p e below _ T4 (mkF m 88 #[.val (.int len), .val (.int c0), .val (.int c1), .val (.int c2), .unset] [(.ref nb4)])
        refine own_st (fun t_ k_ => XS.astore X4.here hx rfl (hb hby d3_88) rfl rfl (l' := #[.val (.int len), .val (.int c0), .val (.int c1), .val (.int c2), .val (.ref nb4)]) rfl k_) ?_
        show own_Go p e below _ T4 (mkF m 90 #[.val (.int len), .val (.int c0), .val (.int c1), .val (.int c2), .val (.ref nb4)] [])
        refine own_st (fun t_ k_ => XS.aload X4.here hx rfl (hb hby d3_90) rfl rfl k_) ?_
        show own_Go p e below _ T4 (mkF m 92 #[.val (.int len), .val (.int c0), .val (.int c1), .val (.int c2), .val (.ref nb4)] [(.ref nb4)])
        refine own_st (fun t_ k_ => XS.iconst X4.here hx rfl (hb hby d3_92) k_) ?_
        show own_Go p e below _ T4 (mkF m 93 #[.val (.int len), .val (.int c0), .val (.int c1), .val (.int c2), .val (.ref nb4)] [(.int (0 : Int32)), (.ref nb4)])
        refine own_st (fun t_ k_ => XS.iloadN X4.here hx rfl (hb hby d3_93) rfl k_) ?_
        show own_Go p e below _ T4 (mkF m 94 #[.val (.int len), .val (.int c0), .val (.int c1), .val (.int c2), .val (.ref nb4)] [(.int c0), (.int (0 : Int32)), (.ref nb4)])
        refine own_st (fun t_ k_ => XS.sipush X4.here hx rfl (hb hby d3_94) k_) ?_
        show own_Go p e below _ T4 (mkF m 97 #[.val (.int len), .val (.int c0), .val (.int c1), .val (.int c2), .val (.ref nb4)] [(.int (255 : Int32)), (.int c0), (.int (0 : Int32)), (.ref nb4)])
        refine own_st (fun t_ k_ => XS.iand X4.here hx rfl (hb hby d3_97) rfl k_) ?_
        show own_Go p e below _ T4 (mkF m 98 #[.val (.int len), .val (.int c0), .val (.int c1), .val (.int c2), .val (.ref nb4)] [(.int (c0 &&& (255 : Int32))), (.int (0 : Int32)), (.ref nb4)])
        refine own_st (fun t_ k_ => XS.i2c X4.here hx rfl (hb hby d3_98) rfl k_) ?_
        show own_Go p e below _ T4 (mkF m 99 #[.val (.int len), .val (.int c0), .val (.int c1), .val (.int c2), .val (.ref nb4)] [(.int ((c0 &&& (255 : Int32)).toUInt32.toUInt16.toUInt32.toInt32)), (.int (0 : Int32)), (.ref nb4)])
        obtain ⟨cl5, Ar5, q5, S5, N5', H5, G5⟩ := V4
        have hin5 : ¬ ((0 : Int32) < 0 ∨ cl5.slots.size ≤ ((0 : Int32)).toNatClampNeg) := inb_of S5 ⟨by decide, by decide⟩
        obtain ⟨T5, h5, X5, e5, W5, st5⟩ := stC X4 hx hZ e4 Ar5 (j := (0 : Int32)) hin5 (g := (mkF m 99 #[.val (.int len), .val (.int c0), .val (.int c1), .val (.int c2), .val (.ref nb4)] [(.int ((c0 &&& (255 : Int32)).toUInt32.toUInt16.toUInt32.toInt32)), (.int (0 : Int32)), (.ref nb4)])) rfl rfl (hb hby d3_99)
        have V5 : Arv Z h5 nb4 k4 .char (3 : Int32) [(.int (nar .char ((c0 &&& (255 : Int32)).toUInt32.toUInt16.toUInt32.toInt32))), (.int (0 : Int32)), (.int (0 : Int32))] (.int (0 : Int32)) := Arv.set Ar5 q5 S5 N5' H5 G5 (fits_nar_char _) W5 0 rfl (Nat.le_of_ble_eq_true rfl)
        refine own_st st5 ?_
        have Sw5 := Sf4
        have B5 := own_Bk.wr W5 Sw5 B4
        have N5 := Fr.snoc X5 N0 g_nb4
        have K5 : Keep h0 h5 [] := K4.wr W5 (Or.inr sz_nb4)
        show own_Go p e below _ T5 (mkF m 100 #[.val (.int len), .val (.int c0), .val (.int c1), .val (.int c2), .val (.ref nb4)] [])
        refine own_st (fun t_ k_ => XS.aload X5.here hx rfl (hb hby d3_100) rfl rfl k_) ?_
        show own_Go p e below _ T5 (mkF m 102 #[.val (.int len), .val (.int c0), .val (.int c1), .val (.int c2), .val (.ref nb4)] [(.ref nb4)])
        refine own_st (fun t_ k_ => XS.iconst X5.here hx rfl (hb hby d3_102) k_) ?_
        show own_Go p e below _ T5 (mkF m 103 #[.val (.int len), .val (.int c0), .val (.int c1), .val (.int c2), .val (.ref nb4)] [(.int (1 : Int32)), (.ref nb4)])
        refine own_st (fun t_ k_ => XS.iloadN X5.here hx rfl (hb hby d3_103) rfl k_) ?_
        show own_Go p e below _ T5 (mkF m 104 #[.val (.int len), .val (.int c0), .val (.int c1), .val (.int c2), .val (.ref nb4)] [(.int c1), (.int (1 : Int32)), (.ref nb4)])
        refine own_st (fun t_ k_ => XS.sipush X5.here hx rfl (hb hby d3_104) k_) ?_
        show own_Go p e below _ T5 (mkF m 107 #[.val (.int len), .val (.int c0), .val (.int c1), .val (.int c2), .val (.ref nb4)] [(.int (255 : Int32)), (.int c1), (.int (1 : Int32)), (.ref nb4)])
        refine own_st (fun t_ k_ => XS.iand X5.here hx rfl (hb hby d3_107) rfl k_) ?_
        show own_Go p e below _ T5 (mkF m 108 #[.val (.int len), .val (.int c0), .val (.int c1), .val (.int c2), .val (.ref nb4)] [(.int (c1 &&& (255 : Int32))), (.int (1 : Int32)), (.ref nb4)])
        refine own_st (fun t_ k_ => XS.i2c X5.here hx rfl (hb hby d3_108) rfl k_) ?_
        show own_Go p e below _ T5 (mkF m 109 #[.val (.int len), .val (.int c0), .val (.int c1), .val (.int c2), .val (.ref nb4)] [(.int ((c1 &&& (255 : Int32)).toUInt32.toUInt16.toUInt32.toInt32)), (.int (1 : Int32)), (.ref nb4)])
        obtain ⟨cl6, Ar6, q6, S6, N6', H6, G6⟩ := V5
        have hin6 : ¬ ((1 : Int32) < 0 ∨ cl6.slots.size ≤ ((1 : Int32)).toNatClampNeg) := inb_of S6 ⟨by decide, by decide⟩
        obtain ⟨T6, h6, X6, e6, W6, st6⟩ := stC X5 hx hZ e5 Ar6 (j := (1 : Int32)) hin6 (g := (mkF m 109 #[.val (.int len), .val (.int c0), .val (.int c1), .val (.int c2), .val (.ref nb4)] [(.int ((c1 &&& (255 : Int32)).toUInt32.toUInt16.toUInt32.toInt32)), (.int (1 : Int32)), (.ref nb4)])) rfl rfl (hb hby d3_109)
        have V6 : Arv Z h6 nb4 k4 .char (3 : Int32) [(.int (nar .char ((c0 &&& (255 : Int32)).toUInt32.toUInt16.toUInt32.toInt32))), (.int (nar .char ((c1 &&& (255 : Int32)).toUInt32.toUInt16.toUInt32.toInt32))), (.int (0 : Int32))] (.int (0 : Int32)) := Arv.set Ar6 q6 S6 N6' H6 G6 (fits_nar_char _) W6 1 rfl (Nat.le_of_ble_eq_true rfl)
        refine own_st st6 ?_
        have f7 := (Safe.wr W5 Sw5 (own_Bk.ch B4) Sf4)
        have Sw6 := f7
        have B6 := own_Bk.wr W6 Sw6 B5
        have N6 := Fr.snoc X6 N5 g_nb4
        have K6 : Keep h0 h6 [] := K5.wr W6 (Or.inr sz_nb4)
        show own_Go p e below _ T6 (mkF m 110 #[.val (.int len), .val (.int c0), .val (.int c1), .val (.int c2), .val (.ref nb4)] [])
        refine own_st (fun t_ k_ => XS.aload X6.here hx rfl (hb hby d3_110) rfl rfl k_) ?_
        show own_Go p e below _ T6 (mkF m 112 #[.val (.int len), .val (.int c0), .val (.int c1), .val (.int c2), .val (.ref nb4)] [(.ref nb4)])
        refine own_st (fun t_ k_ => XS.iconst X6.here hx rfl (hb hby d3_112) k_) ?_
        show own_Go p e below _ T6 (mkF m 113 #[.val (.int len), .val (.int c0), .val (.int c1), .val (.int c2), .val (.ref nb4)] [(.int (2 : Int32)), (.ref nb4)])
        refine own_st (fun t_ k_ => XS.iloadN X6.here hx rfl (hb hby d3_113) rfl k_) ?_
        show own_Go p e below _ T6 (mkF m 114 #[.val (.int len), .val (.int c0), .val (.int c1), .val (.int c2), .val (.ref nb4)] [(.int c2), (.int (2 : Int32)), (.ref nb4)])
        refine own_st (fun t_ k_ => XS.sipush X6.here hx rfl (hb hby d3_114) k_) ?_
        show own_Go p e below _ T6 (mkF m 117 #[.val (.int len), .val (.int c0), .val (.int c1), .val (.int c2), .val (.ref nb4)] [(.int (255 : Int32)), (.int c2), (.int (2 : Int32)), (.ref nb4)])
        refine own_st (fun t_ k_ => XS.iand X6.here hx rfl (hb hby d3_117) rfl k_) ?_
        show own_Go p e below _ T6 (mkF m 118 #[.val (.int len), .val (.int c0), .val (.int c1), .val (.int c2), .val (.ref nb4)] [(.int (c2 &&& (255 : Int32))), (.int (2 : Int32)), (.ref nb4)])
        refine own_st (fun t_ k_ => XS.i2c X6.here hx rfl (hb hby d3_118) rfl k_) ?_
        show own_Go p e below _ T6 (mkF m 119 #[.val (.int len), .val (.int c0), .val (.int c1), .val (.int c2), .val (.ref nb4)] [(.int ((c2 &&& (255 : Int32)).toUInt32.toUInt16.toUInt32.toInt32)), (.int (2 : Int32)), (.ref nb4)])
        obtain ⟨cl8, Ar8, q8, S8, N8', H8, G8⟩ := V6
        have hin8 : ¬ ((2 : Int32) < 0 ∨ cl8.slots.size ≤ ((2 : Int32)).toNatClampNeg) := inb_of S8 ⟨by decide, by decide⟩
        obtain ⟨T8, h8, X8, e8, W8, st8⟩ := stC X6 hx hZ e6 Ar8 (j := (2 : Int32)) hin8 (g := (mkF m 119 #[.val (.int len), .val (.int c0), .val (.int c1), .val (.int c2), .val (.ref nb4)] [(.int ((c2 &&& (255 : Int32)).toUInt32.toUInt16.toUInt32.toInt32)), (.int (2 : Int32)), (.ref nb4)])) rfl rfl (hb hby d3_119)
        have V8 : Arv Z h8 nb4 k4 .char (3 : Int32) [(.int (nar .char ((c0 &&& (255 : Int32)).toUInt32.toUInt16.toUInt32.toInt32))), (.int (nar .char ((c1 &&& (255 : Int32)).toUInt32.toUInt16.toUInt32.toInt32))), (.int (nar .char ((c2 &&& (255 : Int32)).toUInt32.toUInt16.toUInt32.toInt32)))] (.int (0 : Int32)) := Arv.set Ar8 q8 S8 N8' H8 G8 (fits_nar_char _) W8 2 rfl (Nat.le_of_ble_eq_true rfl)
        refine own_st st8 ?_
        have f9 := (Safe.wr W6 Sw6 (own_Bk.ch B5) f7)
        have Sw8 := f9
        have B8 := own_Bk.wr W8 Sw8 B6
        have N8 := Fr.snoc X8 N6 g_nb4
        have K8 : Keep h0 h8 [] := K6.wr W8 (Or.inr sz_nb4)
        show own_Go p e below _ T8 (mkF m 120 #[.val (.int len), .val (.int c0), .val (.int c1), .val (.int c2), .val (.ref nb4)] [])
        obtain ⟨T10, h10, X10, e10, E10, A10, D10, cel10, st10⟩ := newO X8 hx hZ hown (hw _ (List.mem_of_getElem? (i := 4) rfl)) (hw _ (List.mem_of_getElem? (i := 5) rfl)) (hw _ (List.mem_of_getElem? (i := 6) rfl)) e8 (g := (mkF m 120 #[.val (.int len), .val (.int c0), .val (.int c1), .val (.int c2), .val (.ref nb4)] [])) rfl (hb hby d3_120) (by decide) (by decide)
        obtain ⟨nb10, g10⟩ : ∃ z, z = h8.size := ⟨_, rfl⟩
        rw [← g10] at A10 D10 cel10 st10
        refine own_st st10 ?_
        have g_nb10 : n0 ≤ nb10 := Nat.le_trans (Nat.le_trans Z0 K8.1) (Nat.le_of_eq g10.symm)
        have K10 : Keep h0 h10 [] := K8.ext E10
        have sz_nb10 : h0.size ≤ nb10 := Nat.le_trans K8.1 (Nat.le_of_eq g10.symm)
        have B10 := own_Bk.ext E10 B8
        have Sf10 := Safe.ext E10 (own_Bk.ch B8) (Safe.new (Nat.le_of_eq g10.symm))
        have F10_value : Fld Z h10 nb10 "java/lang/String" "value" "[B" .null := D10 (Or.inr (hw _ (List.mem_of_getElem? (i := 20) rfl))) (ty := (.array .byte)) (by decide)
        have F10_coder : Fld Z h10 nb10 "java/lang/String" "coder" "B" (.int (0 : Int32)) := D10 (Or.inr (hw _ (List.mem_of_getElem? (i := 21) rfl))) (ty := .byte) (by decide)
        show own_Go p e below _ T10 (mkF m 123 #[.val (.int len), .val (.int c0), .val (.int c1), .val (.int c2), .val (.ref nb4)] [(.ref nb10)])
        refine own_st (fun t_ k_ => XS.dup X10.here hx rfl (hb hby d3_123) rfl rfl k_) ?_
        show own_Go p e below _ T10 (mkF m 124 #[.val (.int len), .val (.int c0), .val (.int c1), .val (.int c2), .val (.ref nb4)] [(.ref nb10), (.ref nb10)])
        refine own_st (fun t_ k_ => XS.aload X10.here hx rfl (hb hby d3_124) rfl rfl k_) ?_
        show own_Go p e below _ T10 (mkF m 126 #[.val (.int len), .val (.int c0), .val (.int c1), .val (.int c2), .val (.ref nb4)] [(.ref nb4), (.ref nb10), (.ref nb10)])
        have hp11 : ∀ c ∈ ([(nar .char ((c0 &&& (255 : Int32)).toUInt32.toUInt16.toUInt32.toInt32)), (nar .char ((c1 &&& (255 : Int32)).toUInt32.toUInt16.toUInt32.toInt32)), (nar .char ((c2 &&& (255 : Int32)).toUInt32.toUInt16.toUInt32.toInt32))] : List Int32), ¬ c < 0 ∧ ¬ (255 : Int32) < c := (own_lcons (own_and255 c0) (own_lcons (own_and255 c1) (own_lcons (own_and255 c2) own_lnil)))
        have f12 := (V8.ext E10)
        have f13 := (O0.ext E4)
        have f14 := (f13.wr W5 g_nb4)
        have f15 := (f14.wr W6 g_nb4)
        have f16 := (f15.wr W8 g_nb4)
        have f17 := (f16.ext E10)
        refine own_callN X10 hx (y := (⟨"java/lang/String", "<init>", "([C)V"⟩ : MethodName)) rfl hown (mvT hZ (hw _ (List.mem_of_getElem? (i := 8) rfl))) (mvT hZ (hw _ (List.mem_of_getElem? (i := 9) rfl))) (mvT hZ (hw _ (List.mem_of_getElem? (i := 10) rfl))) (by decide) (StrChars.Road.backV (W := 1) hZ (own_words hw) (kI := 4) (hw _ (List.mem_of_getElem? (i := 5) rfl)) (cs := ([(nar .char ((c0 &&& (255 : Int32)).toUInt32.toUInt16.toUInt32.toInt32)), (nar .char ((c1 &&& (255 : Int32)).toUInt32.toUInt16.toUInt32.toInt32)), (nar .char ((c2 &&& (255 : Int32)).toUInt32.toUInt16.toUInt32.toInt32))] : List Int32)) (bs := ([(nar .char ((c0 &&& (255 : Int32)).toUInt32.toUInt16.toUInt32.toInt32)), (nar .char ((c1 &&& (255 : Int32)).toUInt32.toUInt16.toUInt32.toInt32)), (nar .char ((c2 &&& (255 : Int32)).toUInt32.toUInt16.toUInt32.toInt32))] : List Int32).map (fun c => c.toInt8.toInt32)) (n := 3) g_nb10 (Nat.le_trans Z0 K10.1) A10 F10_value F10_coder f12 (Sta.ext f17.2 SC) hCS rfl rfl (by decide) (by decide) hp11 rfl (by decide) (by decide)) (a := nb10) (g := (mkF m 126 #[.val (.int len), .val (.int c0), .val (.int c1), .val (.int c2), .val (.ref nb4)] [(.ref nb4), (.ref nb10), (.ref nb10)])) rfl (by rw [hml]; rfl) (argsL := [(.ref nb4)]) (rest := [(.ref nb10)]) (lenOf pd_1 rfl) rfl (by show 2 * 0 + _ ≤ _; exact Nat.le_of_eq rfl) (hb hby d3_126) rfl e10 (by decide) (by decide) ?_
        rintro v11 T11 L11 X11 ⟨rfl, Nq11, Kq11, Eq11, Cq11, t11, kb11, g_t11, gt11, nt11, Vq11, Aq11⟩
        have sz_t11 : h0.size ≤ t11 := Nat.le_trans K10.1 gt11
        have N11 := Fr.app N8 Nq11
        have K11 : Keep h0 T11.heap [] := K10.trans Kq11 (allS (Or.inr sz_nb10) all0)
        have Sk11 : ∀ x ∈ [nb10], _ := (sfS Sf10 sf0)
        have B11 := own_Bk.keep Kq11 Sk11 B10
        show own_Go p e below _ T11 (mkF m 129 #[.val (.int len), .val (.int c0), .val (.int c1), .val (.int c2), .val (.ref nb4)] [(.ref nb10)])
        refine own_retAS X11 hx hlk hZ hEL rfl hh B11 Bd.returns rfl rfl (hb hby d3_129) ?_ (by decide) (by decide)
        show QD Z h0 n0 _ T11.heap _
        exact ⟨nb10, rfl, N11, K11, sz_nb10, Eq11⟩
def QR (r : Value) (h0 : Heap) (n0 : Nat) (v : Option Value) (h : Heap) (L : List Loc) : Prop := v = some r ∧ Fr n0 L ∧ h = h0
theorem d4_0 : decode jdk_72_method_26_code 0 = .ok (.getstatic 81, 3) := by decide +kernel
theorem d4_3 : decode jdk_72_method_26_code 3 = .ok (.areturn, 1) := by decide +kernel
theorem pn_2 : plainName "java/util/Map" = true := by first | (simp [plainName, overriddenIn]; done) | decide +kernel
theorem ef_rmO (m : MethodId)  : entryFrame m #[] 0 = mkF m 0 #[] [] := by first | (simp [entryFrame, mkF, argsToLocals, Value.category]; done) | rfl
set_option maxRecDepth 65536 in
set_option maxHeartbeats 40000000 in
theorem rmO (l : Launch) (Z : State) (a0 : Array Value) (hw : ∀ d ∈ tables_1, d.before a0 Z = true) (ws : List Jvm.Cond) (em : Addr) (h0 : Heap) (n0 : Nat) (Z0 : n0 ≤ h0.size) (SM : Sta Z h0 "java/util/ImmutableCollections" "EMPTY_MAP" "Ljava/util/ImmutableCollections$MapN;" (.ref em)) :
    MetFree l (⟨"java/util/Map", "of", "()Ljava/util/Map;"⟩ : MethodName) (head1 (Jvm.Cond.code (⟨"java/util/Map", "of", "()Ljava/util/Map;"⟩ : MethodName) jdk_72_method_26_code 0 (some (.object "java/util/Map")) :: ws) ({ frames := 0, cells := 0, slots := 0, locals := 0 } : Room)) (fun a_ U_ => a_ = #[] ∧ Z.Warmed39 U_.vm ∧ U_.heap = h0) (fun _ _ _ _ _ => True) (fun _ U_ o_ U'_ => ∃ v_ L_, o_ = .returned v_ ∧ QR (.ref em) h0 n0 v_ U'_.heap L_ ∧ FrameEnd U_ o_ U'_ L_ ({ frames := 0, cells := 0, slots := 0, locals := 0 } : Room).cells ({ frames := 0, cells := 0, slots := 0, locals := 0 } : Room).slots) := by
  refine MetFree.of_bodySF (plainFor_of_name pn_2) hisR ?_
  intro p e s m args below meth c s₁ Bd hml0 hP hK
  obtain ⟨rfl, hZ, hh⟩ := hP
  have hx := Bd.exec
  have hby := Bd.bytes
  have hml : c.maxLocals = 0 := hml0
  have hown : s.vm.findClass "java/util/Map" = some m.cls := findClass_of_methodNamed Bd.named
  have hnm := (name_of_methodNamed Bd.named Bd.method).1
  have hlk := BodyLoose.notSynchronized Bd
  have X0 : Stand p l e ({ frames := 0, cells := 0, slots := 0, locals := 0 } : Room) s m #[] below meth c s₁ [] 0 0 := Stand.of_body Bd
  have e0 : s₁.heap = h0 := by rw [← hh, Bd.state]; rfl
  have N0 := Fr.nil n0
  refine own_entry (P := own_End s (QR (.ref em) h0 n0) ({ frames := 0, cells := 0, slots := 0, locals := 0 } : Room).cells ({ frames := 0, cells := 0, slots := 0, locals := 0 } : Room).slots) (ef_rmO m ) ?_
  show own_Go p e below _ s₁ (mkF m 0 #[] [])
  obtain ⟨T1, X1, e1, st1⟩ := getS2 X0 hx hZ hown (host := "") (Or.inl (hw _ (List.mem_of_getElem? (i := 33) rfl))) Via.refl e0 SM (g := (mkF m 0 #[] [])) rfl (hb hby d4_0)
  refine own_st st1 ?_
  show own_Go p e below _ T1 (mkF m 3 #[] [(.ref em)])
  refine own_retA X1 hx hlk Bd.returns rfl rfl (hb hby d4_3) ?_ (by decide) (by decide)
  show QR (.ref em) h0 n0 _ T1.heap _
  rw [e1]
  exact ⟨rfl, N0, rfl⟩
theorem d5_0 : decode jdk_72_method_39_code 0 = .ok (.aload_n 0, 1) := by decide +kernel
theorem d5_1 : decode jdk_72_method_39_code 1 = .ok (.instanceof 101, 3) := by decide +kernel
theorem d5_4 : decode jdk_72_method_39_code 4 = .ok (.ifCond .eq 5, 3) := by decide +kernel
theorem d5_7 : decode jdk_72_method_39_code 7 = .ok (.aload_n 0, 1) := by decide +kernel
theorem d5_8 : decode jdk_72_method_39_code 8 = .ok (.areturn, 1) := by decide +kernel
theorem ef_rmC (m : MethodId) (x0 : Addr) : entryFrame m #[(.ref x0)] 1 = mkF m 0 #[.val (.ref x0)] [] := by first | (simp [entryFrame, mkF, argsToLocals, Value.category]; done) | rfl
set_option maxRecDepth 65536 in
set_option maxHeartbeats 40000000 in
theorem rmC (l : Launch) (Z : State) (a0 : Array Value) (hw : ∀ d ∈ tables_1, d.before a0 Z = true) (ws : List Jvm.Cond) (em : Addr) (h0 : Heap) (n0 : Nat) (Z0 : n0 ≤ h0.size) (Em : Exa Z h0 em "java/util/ImmutableCollections$MapN") :
    MetFree l (⟨"java/util/Map", "copyOf", "(Ljava/util/Map;)Ljava/util/Map;"⟩ : MethodName) (head1 (Jvm.Cond.code (⟨"java/util/Map", "copyOf", "(Ljava/util/Map;)Ljava/util/Map;"⟩ : MethodName) jdk_72_method_39_code 1 (some (.object "java/util/Map")) :: ws) ({ frames := 0, cells := 0, slots := 0, locals := 0 } : Room)) (fun a_ U_ => a_ = #[(.ref em)] ∧ Z.Warmed39 U_.vm ∧ U_.heap = h0) (fun _ _ _ _ _ => True) (fun _ U_ o_ U'_ => ∃ v_ L_, o_ = .returned v_ ∧ QR (.ref em) h0 n0 v_ U'_.heap L_ ∧ FrameEnd U_ o_ U'_ L_ ({ frames := 0, cells := 0, slots := 0, locals := 0 } : Room).cells ({ frames := 0, cells := 0, slots := 0, locals := 0 } : Room).slots) := by
  refine MetFree.of_bodySF (plainFor_of_name pn_2) hisR ?_
  intro p e s m args below meth c s₁ Bd hml0 hP hK
  obtain ⟨rfl, hZ, hh⟩ := hP
  have hx := Bd.exec
  have hby := Bd.bytes
  have hml : c.maxLocals = 1 := hml0
  have hown : s.vm.findClass "java/util/Map" = some m.cls := findClass_of_methodNamed Bd.named
  have hnm := (name_of_methodNamed Bd.named Bd.method).1
  have hlk := BodyLoose.notSynchronized Bd
  have X0 : Stand p l e ({ frames := 0, cells := 0, slots := 0, locals := 0 } : Room) s m #[(.ref em)] below meth c s₁ [] 0 0 := Stand.of_body Bd
  have e0 : s₁.heap = h0 := by rw [← hh, Bd.state]; rfl
  have N0 := Fr.nil n0
  refine own_entry (P := own_End s (QR (.ref em) h0 n0) ({ frames := 0, cells := 0, slots := 0, locals := 0 } : Room).cells ({ frames := 0, cells := 0, slots := 0, locals := 0 } : Room).slots) (ef_rmC m em) ?_
  show own_Go p e below _ s₁ (mkF m 0 #[.val (.ref em)] [])
  refine own_st (fun t_ k_ => XS.aloadN X0.here hx rfl (hb hby d5_0) rfl rfl k_) ?_
  show own_Go p e below _ s₁ (mkF m 1 #[.val (.ref em)] [(.ref em)])
  obtain ⟨T1, X1, e1, st1⟩ := instY X0 hx hZ hown (hw _ (List.mem_of_getElem? (i := 41) rfl)) e0 (Ins.of_exa Em (hw _ (List.mem_of_getElem? (i := 42) rfl))) (g := (mkF m 1 #[.val (.ref em)] [(.ref em)])) rfl rfl (hb hby d5_1)
  refine own_st st1 ?_
  show own_Go p e below _ T1 (mkF m 4 #[.val (.ref em)] [(.int (1 : Int32))])
  refine own_st (fun t_ k_ => XS.ifNo X1.here hx rfl (hb hby d5_4) rfl (by decide) k_) ?_
  show own_Go p e below _ T1 (mkF m 7 #[.val (.ref em)] [])
  refine own_st (fun t_ k_ => XS.aloadN X1.here hx rfl (hb hby d5_7) rfl rfl k_) ?_
  show own_Go p e below _ T1 (mkF m 8 #[.val (.ref em)] [(.ref em)])
  refine own_retA X1 hx hlk Bd.returns rfl rfl (hb hby d5_8) ?_ (by decide) (by decide)
  show QR (.ref em) h0 n0 _ T1.heap _
  rw [e1]
  exact ⟨rfl, N0, rfl⟩
def QU (Z : State) (a : Addr) (h0 : Heap) (n0 : Nat) (v : Option Value) (h : Heap) (L : List Loc) : Prop := v = none ∧ Fr n0 L ∧ Keep h0 h [a] ∧ Exa Z h a "com/example/lean_pubsub/leanpubsub/auth/Users" ∧ Fld Z h a "com/example/lean_pubsub/leanpubsub/auth/Users" "namesChecked" "Z" (.int (1 : Int32))
theorem own_nbV {z : Int32} (h : z = (0 : Int32) ∨ z = (1 : Int32)) : narrow .boolean (.int z) = .int z := by rcases h with rfl | rfl <;> rfl
theorem own_nbF {z : Int32} (h : z = (0 : Int32) ∨ z = (1 : Int32)) : fits .boolean (.int z) = true := by rcases h with rfl | rfl <;> decide
theorem d6_0 : decode prog_14_method_2_code 0 = .ok (.aload_n 0, 1) := by decide +kernel
theorem d6_1 : decode prog_14_method_2_code 1 = .ok (.invokespecial 13, 3) := by decide +kernel
theorem d6_4 : decode prog_14_method_2_code 4 = .ok (.aload_n 0, 1) := by decide +kernel
theorem d6_5 : decode prog_14_method_2_code 5 = .ok (.aload_n 1, 1) := by decide +kernel
theorem d6_6 : decode prog_14_method_2_code 6 = .ok (.putfield 18, 3) := by decide +kernel
theorem d6_9 : decode prog_14_method_2_code 9 = .ok (.aload_n 0, 1) := by decide +kernel
theorem d6_10 : decode prog_14_method_2_code 10 = .ok (.iload_n 2, 1) := by decide +kernel
theorem d6_11 : decode prog_14_method_2_code 11 = .ok (.putfield 22, 3) := by decide +kernel
theorem d6_14 : decode prog_14_method_2_code 14 = .ok (.aload_n 0, 1) := by decide +kernel
theorem d6_15 : decode prog_14_method_2_code 15 = .ok (.iload_n 3, 1) := by decide +kernel
theorem d6_16 : decode prog_14_method_2_code 16 = .ok (.putfield 26, 3) := by decide +kernel
theorem d6_19 : decode prog_14_method_2_code 19 = .ok (.return_, 1) := by decide +kernel
theorem pn_3 : plainName "com/example/lean_pubsub/leanpubsub/auth/Users" = true := by first | (simp [plainName, overriddenIn]; done) | decide +kernel
theorem ef_rmU2 (m : MethodId) (x0 : Addr) (x1 : Addr) (x2 : Int32) (x3 : Int32) : entryFrame m #[(.ref x0), (.ref x1), (.int x2), (.int x3)] 4 = mkF m 0 #[.val (.ref x0), .val (.ref x1), .val (.int x2), .val (.int x3)] [] := by first | (simp [entryFrame, mkF, argsToLocals, Value.category]; done) | rfl
set_option maxRecDepth 65536 in
set_option maxHeartbeats 40000000 in
theorem rmU2 (l : Launch) (Z : State) (a0 : Array Value) (hw : ∀ d ∈ tables_1, d.before a0 Z = true) (ws : List Jvm.Cond) (a em : Addr) (z : Int32) (h0 : Heap) (n0 : Nat) (Z0 : n0 ≤ h0.size) (g_a : n0 ≤ a) (Ea : Exa Z h0 a "com/example/lean_pubsub/leanpubsub/auth/Users") (F0 : Fld Z h0 a "com/example/lean_pubsub/leanpubsub/auth/Users" "passwords" "Ljava/util/Map;" .null) (F1 : Fld Z h0 a "com/example/lean_pubsub/leanpubsub/auth/Users" "anonymousAllowed" "Z" (.int (0 : Int32))) (F2 : Fld Z h0 a "com/example/lean_pubsub/leanpubsub/auth/Users" "namesChecked" "Z" (.int (0 : Int32))) (hz : z = (0 : Int32) ∨ z = (1 : Int32)) :
    MetFree l (⟨"com/example/lean_pubsub/leanpubsub/auth/Users", "<init>", "(Ljava/util/Map;ZZ)V"⟩ : MethodName) (head1 (Jvm.Cond.code (⟨"com/example/lean_pubsub/leanpubsub/auth/Users", "<init>", "(Ljava/util/Map;ZZ)V"⟩ : MethodName) prog_14_method_2_code 4 none :: ws) ({ frames := 1, cells := 0, slots := 0, locals := 12 } : Room)) (fun a_ U_ => a_ = #[(.ref a), (.ref em), (.int z), (.int (1 : Int32))] ∧ Z.Warmed39 U_.vm ∧ U_.heap = h0) (fun _ _ _ _ _ => True) (fun _ U_ o_ U'_ => ∃ v_ L_, o_ = .returned v_ ∧ QU Z a h0 n0 v_ U'_.heap L_ ∧ FrameEnd U_ o_ U'_ L_ ({ frames := 1, cells := 0, slots := 0, locals := 12 } : Room).cells ({ frames := 1, cells := 0, slots := 0, locals := 12 } : Room).slots) := by
  refine MetFree.of_bodySF (plainFor_of_name pn_3) hisR ?_
  intro p e s m args below meth c s₁ Bd hml0 hP hK
  obtain ⟨rfl, hZ, hh⟩ := hP
  have hx := Bd.exec
  have hby := Bd.bytes
  have hml : c.maxLocals = 4 := hml0
  have hown : s.vm.findClass "com/example/lean_pubsub/leanpubsub/auth/Users" = some m.cls := findClass_of_methodNamed Bd.named
  have hnm := (name_of_methodNamed Bd.named Bd.method).1
  have hlk := BodyLoose.notSynchronized Bd
  have X0 : Stand p l e ({ frames := 1, cells := 0, slots := 0, locals := 12 } : Room) s m #[(.ref a), (.ref em), (.int z), (.int (1 : Int32))] below meth c s₁ [] 0 0 := Stand.of_body Bd
  have e0 : s₁.heap = h0 := by rw [← hh, Bd.state]; rfl
  have N0 := Fr.nil n0
  refine own_entry (P := own_End s (QU Z a h0 n0) ({ frames := 1, cells := 0, slots := 0, locals := 12 } : Room).cells ({ frames := 1, cells := 0, slots := 0, locals := 12 } : Room).slots) (ef_rmU2 m a em z (1 : Int32)) ?_
  show own_Go p e below _ s₁ (mkF m 0 #[.val (.ref a), .val (.ref em), .val (.int z), .val (.int (1 : Int32))] [])
  refine own_st (fun t_ k_ => XS.aloadN X0.here hx rfl (hb hby d6_0) rfl rfl k_) ?_
  show own_Go p e below _ s₁ (mkF m 1 #[.val (.ref a), .val (.ref em), .val (.int z), .val (.int (1 : Int32))] [(.ref a)])
  obtain ⟨T1, X1, e1, st1⟩ := initO X0 hx hZ hown (hw _ (List.mem_of_getElem? (i := 46) rfl)) (hw _ (List.mem_of_getElem? (i := 16) rfl)) (hw _ (List.mem_of_getElem? (i := 17) rfl)) e0 (g := (mkF m 1 #[.val (.ref a), .val (.ref em), .val (.int z), .val (.int (1 : Int32))] [(.ref a)])) rfl (by rw [hml]; rfl) rfl (hb hby d6_1) (by decide) (W := 0) (by show 2 * 0 + _ ≤ _; exact Nat.le_of_eq rfl) (by decide)
  refine own_st st1 ?_
  show own_Go p e below _ T1 (mkF m 4 #[.val (.ref a), .val (.ref em), .val (.int z), .val (.int (1 : Int32))] [])
  refine own_st (fun t_ k_ => XS.aloadN X1.here hx rfl (hb hby d6_4) rfl rfl k_) ?_
  show own_Go p e below _ T1 (mkF m 5 #[.val (.ref a), .val (.ref em), .val (.int z), .val (.int (1 : Int32))] [(.ref a)])
  refine own_st (fun t_ k_ => XS.aloadN X1.here hx rfl (hb hby d6_5) rfl rfl k_) ?_
  show own_Go p e below _ T1 (mkF m 6 #[.val (.ref a), .val (.ref em), .val (.int z), .val (.int (1 : Int32))] [(.ref em), (.ref a)])
  obtain ⟨T2, h2, X2, e2, W2, st2⟩ := putF X1 hx hZ hown (host := "") (Or.inl (hw _ (List.mem_of_getElem? (i := 47) rfl))) Via.refl e1 F0 Ea (Or.inr ⟨(hw _ (List.mem_of_getElem? (i := 48) rfl)), rfl, hnm⟩) (hw _ (List.mem_of_getElem? (i := 27) rfl)) (ty := (.object "java/util/Map")) (by decide) rfl rfl (g := (mkF m 6 #[.val (.ref a), .val (.ref em), .val (.int z), .val (.int (1 : Int32))] [(.ref em), (.ref a)])) rfl rfl (hb hby d6_6)
  refine own_st st2 ?_
  have N2 := Fr.snoc X2 N0 g_a
  have K2 : Keep h0 h2 [a] := (Keep.refl h0 [a]).wr W2 (Or.inl (List.mem_of_getElem? (i := 0) rfl))
  have Fw2 := Fld.same W2 F0
  show own_Go p e below _ T2 (mkF m 9 #[.val (.ref a), .val (.ref em), .val (.int z), .val (.int (1 : Int32))] [])
  refine own_st (fun t_ k_ => XS.aloadN X2.here hx rfl (hb hby d6_9) rfl rfl k_) ?_
  show own_Go p e below _ T2 (mkF m 10 #[.val (.ref a), .val (.ref em), .val (.int z), .val (.int (1 : Int32))] [(.ref a)])
  refine own_st (fun t_ k_ => XS.iloadN X2.here hx rfl (hb hby d6_10) rfl k_) ?_
  show own_Go p e below _ T2 (mkF m 11 #[.val (.ref a), .val (.ref em), .val (.int z), .val (.int (1 : Int32))] [(.int z), (.ref a)])
  have f4 := (Fld.other W2 F1 (Or.inr (slot_ne (Or.inr (hw _ (List.mem_of_getElem? (i := 50) rfl))) (Or.inr (hw _ (List.mem_of_getElem? (i := 48) rfl))) (by decide) (t := .boolean) (t' := (.object "java/util/Map")) (by decide) (by decide))))
  have f5 := (Exa.wr W2 Ea)
  obtain ⟨T3, h3, X3, e3, W3, st3⟩ := putFN X2 hx hZ hown (hw _ (List.mem_of_getElem? (i := 49) rfl)) Via.refl e2 f4 f5 (Or.inr ⟨(hw _ (List.mem_of_getElem? (i := 50) rfl)), rfl, hnm⟩) (hw _ (List.mem_of_getElem? (i := 27) rfl)) (ty := .boolean) (v' := (.int z)) (by decide) (own_nbV hz) (own_nbF hz) (g := (mkF m 11 #[.val (.ref a), .val (.ref em), .val (.int z), .val (.int (1 : Int32))] [(.int z), (.ref a)])) rfl rfl (hb hby d6_11)
  refine own_st st3 ?_
  have N3 := Fr.snoc X3 N2 g_a
  have K3 : Keep h0 h3 [a] := K2.wr W3 (Or.inl (List.mem_of_getElem? (i := 0) rfl))
  have Fw3 := Fld.same W3 f4
  show own_Go p e below _ T3 (mkF m 14 #[.val (.ref a), .val (.ref em), .val (.int z), .val (.int (1 : Int32))] [])
  refine own_st (fun t_ k_ => XS.aloadN X3.here hx rfl (hb hby d6_14) rfl rfl k_) ?_
  show own_Go p e below _ T3 (mkF m 15 #[.val (.ref a), .val (.ref em), .val (.int z), .val (.int (1 : Int32))] [(.ref a)])
  refine own_st (fun t_ k_ => XS.iloadN X3.here hx rfl (hb hby d6_15) rfl k_) ?_
  show own_Go p e below _ T3 (mkF m 16 #[.val (.ref a), .val (.ref em), .val (.int z), .val (.int (1 : Int32))] [(.int (1 : Int32)), (.ref a)])
  have f7 := (Fld.other W2 F2 (Or.inr (slot_ne (Or.inr (hw _ (List.mem_of_getElem? (i := 52) rfl))) (Or.inr (hw _ (List.mem_of_getElem? (i := 48) rfl))) (by decide) (t := .boolean) (t' := (.object "java/util/Map")) (by decide) (by decide))))
  have f8 := (Fld.other W3 f7 (Or.inr (slot_ne (Or.inr (hw _ (List.mem_of_getElem? (i := 52) rfl))) (Or.inr (hw _ (List.mem_of_getElem? (i := 50) rfl))) (by decide) (t := .boolean) (t' := .boolean) (by decide) (by decide))))
  have f9 := (Exa.wr W3 f5)
  obtain ⟨T6, h6, X6, e6, W6, st6⟩ := putFN X3 hx hZ hown (hw _ (List.mem_of_getElem? (i := 51) rfl)) Via.refl e3 f8 f9 (Or.inr ⟨(hw _ (List.mem_of_getElem? (i := 52) rfl)), rfl, hnm⟩) (hw _ (List.mem_of_getElem? (i := 27) rfl)) (ty := .boolean) (v' := (.int (1 : Int32))) (by decide) rfl (by decide) (g := (mkF m 16 #[.val (.ref a), .val (.ref em), .val (.int z), .val (.int (1 : Int32))] [(.int (1 : Int32)), (.ref a)])) rfl rfl (hb hby d6_16)
  refine own_st st6 ?_
  have N6 := Fr.snoc X6 N3 g_a
  have K6 : Keep h0 h6 [a] := K3.wr W6 (Or.inl (List.mem_of_getElem? (i := 0) rfl))
  have Fw6 := Fld.same W6 f8
  show own_Go p e below _ T6 (mkF m 19 #[.val (.ref a), .val (.ref em), .val (.int z), .val (.int (1 : Int32))] [])
  have f10 := (Exa.wr W6 f9)
  refine own_ret0 X6 hx hlk Bd.returns (hb hby d6_19) ?_ (by decide) (by decide)
  show QU Z a h0 n0 _ T6.heap _
  rw [e6]
  exact ⟨rfl, N6, K6, f10, Fw6⟩
theorem d7_0 : decode prog_14_method_1_code 0 = .ok (.aload_n 0, 1) := by decide +kernel
theorem d7_1 : decode prog_14_method_1_code 1 = .ok (.aload_n 1, 1) := by decide +kernel
theorem d7_2 : decode prog_14_method_1_code 2 = .ok (.invokestatic 1, 3) := by decide +kernel
theorem pd_2 : parseMethodDescriptor "(Ljava/util/Map;)Ljava/util/Map;" = some ⟨[(.object "java/util/Map")], some (.object "java/util/Map")⟩ := by decide +kernel
theorem d7_5 : decode prog_14_method_1_code 5 = .ok (.iload_n 2, 1) := by decide +kernel
theorem d7_6 : decode prog_14_method_1_code 6 = .ok (.iconst 1, 1) := by decide +kernel
theorem d7_7 : decode prog_14_method_1_code 7 = .ok (.invokespecial 7, 3) := by decide +kernel
theorem pd_3 : parseMethodDescriptor "(Ljava/util/Map;ZZ)V" = some ⟨[(.object "java/util/Map"), .boolean, .boolean], none⟩ := by decide +kernel
theorem d7_10 : decode prog_14_method_1_code 10 = .ok (.return_, 1) := by decide +kernel
theorem ef_rmU1 (m : MethodId) (x0 : Addr) (x1 : Addr) (x2 : Int32) : entryFrame m #[(.ref x0), (.ref x1), (.int x2)] 3 = mkF m 0 #[.val (.ref x0), .val (.ref x1), .val (.int x2)] [] := by first | (simp [entryFrame, mkF, argsToLocals, Value.category]; done) | rfl
set_option maxRecDepth 65536 in
set_option maxHeartbeats 40000000 in
theorem rmU1 (l : Launch) (Z : State) (a0 : Array Value) (hw : ∀ d ∈ tables_1, d.before a0 Z = true) (ws : List Jvm.Cond) (a em : Addr) (z : Int32) (h0 : Heap) (n0 : Nat) (Z0 : n0 ≤ h0.size) (g_a : n0 ≤ a) (Ea : Exa Z h0 a "com/example/lean_pubsub/leanpubsub/auth/Users") (F0 : Fld Z h0 a "com/example/lean_pubsub/leanpubsub/auth/Users" "passwords" "Ljava/util/Map;" .null) (F1 : Fld Z h0 a "com/example/lean_pubsub/leanpubsub/auth/Users" "anonymousAllowed" "Z" (.int (0 : Int32))) (F2 : Fld Z h0 a "com/example/lean_pubsub/leanpubsub/auth/Users" "namesChecked" "Z" (.int (0 : Int32))) (hz : z = (0 : Int32) ∨ z = (1 : Int32)) (Em : Exa Z h0 em "java/util/ImmutableCollections$MapN") :
    MetFree l (⟨"com/example/lean_pubsub/leanpubsub/auth/Users", "<init>", "(Ljava/util/Map;Z)V"⟩ : MethodName) (head1 (Jvm.Cond.code (⟨"com/example/lean_pubsub/leanpubsub/auth/Users", "<init>", "(Ljava/util/Map;Z)V"⟩ : MethodName) prog_14_method_1_code 3 none :: ws) ({ frames := 2, cells := 0, slots := 0, locals := 27 } : Room)) (fun a_ U_ => a_ = #[(.ref a), (.ref em), (.int z)] ∧ Z.Warmed39 U_.vm ∧ U_.heap = h0) (fun _ _ _ _ _ => True) (fun _ U_ o_ U'_ => ∃ v_ L_, o_ = .returned v_ ∧ QU Z a h0 n0 v_ U'_.heap L_ ∧ FrameEnd U_ o_ U'_ L_ ({ frames := 2, cells := 0, slots := 0, locals := 27 } : Room).cells ({ frames := 2, cells := 0, slots := 0, locals := 27 } : Room).slots) := by
  refine MetFree.of_bodySF (plainFor_of_name pn_3) hisR ?_
  intro p e s m args below meth c s₁ Bd hml0 hP hK
  obtain ⟨rfl, hZ, hh⟩ := hP
  have hx := Bd.exec
  have hby := Bd.bytes
  have hml : c.maxLocals = 3 := hml0
  have hown : s.vm.findClass "com/example/lean_pubsub/leanpubsub/auth/Users" = some m.cls := findClass_of_methodNamed Bd.named
  have hnm := (name_of_methodNamed Bd.named Bd.method).1
  have hlk := BodyLoose.notSynchronized Bd
  have X0 : Stand p l e ({ frames := 2, cells := 0, slots := 0, locals := 27 } : Room) s m #[(.ref a), (.ref em), (.int z)] below meth c s₁ [] 0 0 := Stand.of_body Bd
  have e0 : s₁.heap = h0 := by rw [← hh, Bd.state]; rfl
  have N0 := Fr.nil n0
  refine own_entry (P := own_End s (QU Z a h0 n0) ({ frames := 2, cells := 0, slots := 0, locals := 27 } : Room).cells ({ frames := 2, cells := 0, slots := 0, locals := 27 } : Room).slots) (ef_rmU1 m a em z) ?_
  show own_Go p e below _ s₁ (mkF m 0 #[.val (.ref a), .val (.ref em), .val (.int z)] [])
  refine own_st (fun t_ k_ => XS.aloadN X0.here hx rfl (hb hby d7_0) rfl rfl k_) ?_
  show own_Go p e below _ s₁ (mkF m 1 #[.val (.ref a), .val (.ref em), .val (.int z)] [(.ref a)])
  refine own_st (fun t_ k_ => XS.aloadN X0.here hx rfl (hb hby d7_1) rfl rfl k_) ?_
  show own_Go p e below _ s₁ (mkF m 2 #[.val (.ref a), .val (.ref em), .val (.int z)] [(.ref em), (.ref a)])
  refine own_callS X0 hx (y := (⟨"java/util/Map", "copyOf", "(Ljava/util/Map;)Ljava/util/Map;"⟩ : MethodName)) hown (mvT hZ (hw _ (List.mem_of_getElem? (i := 38) rfl))) (mvT hZ (hw _ (List.mem_of_getElem? (i := 39) rfl))) (mvT hZ (hw _ (List.mem_of_getElem? (i := 31) rfl))) (mvT hZ (hw _ (List.mem_of_getElem? (i := 40) rfl))) (by decide) (backOf (W := 1) (rmC l Z a0 hw [] em h0 n0 (Nat.le_trans Z0 (Keep.refl h0 [a]).1) Em) hZ (hw _ (List.mem_of_getElem? (i := 40) rfl)) (hw _ (List.mem_of_getElem? (i := 31) rfl)) (by decide) (by decide)) (g := (mkF m 2 #[.val (.ref a), .val (.ref em), .val (.int z)] [(.ref em), (.ref a)])) rfl (by rw [hml]; rfl) (argsL := [(.ref em)]) (rest := [(.ref a)]) (lenOf pd_2 rfl) rfl (by show 2 * 0 + _ ≤ _; exact Nat.le_of_eq rfl) (hb hby d7_2) rfl e0 (by decide) (by decide) ?_
  rintro v1 T1 L1 X1 ⟨rfl, Nq1, hh1⟩
  have N1 := Fr.app N0 Nq1
  show own_Go p e below _ T1 (mkF m 5 #[.val (.ref a), .val (.ref em), .val (.int z)] [(.ref em), (.ref a)])
  refine own_st (fun t_ k_ => XS.iloadN X1.here hx rfl (hb hby d7_5) rfl k_) ?_
  show own_Go p e below _ T1 (mkF m 6 #[.val (.ref a), .val (.ref em), .val (.int z)] [(.int z), (.ref em), (.ref a)])
  refine own_st (fun t_ k_ => XS.iconst X1.here hx rfl (hb hby d7_6) k_) ?_
  show own_Go p e below _ T1 (mkF m 7 #[.val (.ref a), .val (.ref em), .val (.int z)] [(.int (1 : Int32)), (.int z), (.ref em), (.ref a)])
  refine own_callN X1 hx (y := (⟨"com/example/lean_pubsub/leanpubsub/auth/Users", "<init>", "(Ljava/util/Map;ZZ)V"⟩ : MethodName)) rfl hown (mvT hZ (hw _ (List.mem_of_getElem? (i := 43) rfl))) (mvT hZ (hw _ (List.mem_of_getElem? (i := 44) rfl))) (mvT hZ (hw _ (List.mem_of_getElem? (i := 45) rfl))) (by decide) (backOf (W := 0) (rmU2 l Z a0 hw [] a em z h0 n0 (Nat.le_trans Z0 (Keep.refl h0 [a]).1) g_a Ea F0 F1 F2 hz) hZ (hw _ (List.mem_of_getElem? (i := 45) rfl)) (hw _ (List.mem_of_getElem? (i := 28) rfl)) (by decide) (by decide)) (a := a) (g := (mkF m 7 #[.val (.ref a), .val (.ref em), .val (.int z)] [(.int (1 : Int32)), (.int z), (.ref em), (.ref a)])) rfl (by rw [hml]; rfl) (argsL := [(.ref em), (.int z), (.int (1 : Int32))]) (rest := []) (lenOf pd_3 rfl) rfl (by show 2 * 0 + _ ≤ _; exact Nat.le_of_eq rfl) (hb hby d7_7) rfl hh1 (by decide) (by decide) ?_
  rintro v2 T2 L2 X2 ⟨rfl, Nq2, Kq2, Eq2, Fq2⟩
  have N2 := Fr.app N1 Nq2
  have K2 : Keep h0 T2.heap [a] := (Keep.refl h0 [a]).trans Kq2 (allS (Or.inl (List.mem_of_getElem? (i := 0) rfl)) all0)
  show own_Go p e below _ T2 (mkF m 10 #[.val (.ref a), .val (.ref em), .val (.int z)] [])
  refine own_ret0 X2 hx hlk Bd.returns (hb hby d7_10) ?_ (by decide) (by decide)
  show QU Z a h0 n0 _ T2.heap _
  exact ⟨rfl, N2, K2, Eq2, Fq2⟩
theorem d8_0 : decode prog_14_method_4_code 0 = .ok (.aload_n 0, 1) := by decide +kernel
theorem d8_1 : decode prog_14_method_4_code 1 = .ok (.getfield 26, 3) := by decide +kernel
theorem d8_4 : decode prog_14_method_4_code 4 = .ok (.ifCond .eq 7, 3) := by decide +kernel
theorem d8_11 : decode prog_14_method_4_code 11 = .ok (.aconst_null, 1) := by decide +kernel
theorem d8_12 : decode prog_14_method_4_code 12 = .ok (.areturn, 1) := by decide +kernel
theorem ef_rmA0R (m : MethodId) (x0 : Addr) (x1 : Addr) : entryFrame m #[(.ref x0), (.ref x1)] 2 = mkF m 0 #[.val (.ref x0), .val (.ref x1)] [] := by first | (simp [entryFrame, mkF, argsToLocals, Value.category]; done) | rfl
set_option maxRecDepth 65536 in
set_option maxHeartbeats 40000000 in
theorem rmA0R (l : Launch) (Z : State) (a0 : Array Value) (hw : ∀ d ∈ tables_1, d.before a0 Z = true) (ws : List Jvm.Cond) (a s0 : Addr) (h0 : Heap) (n0 : Nat) (Z0 : n0 ≤ h0.size) (F : Fld Z h0 a "com/example/lean_pubsub/leanpubsub/auth/Users" "namesChecked" "Z" (.int (0 : Int32))) :
    MetFree l (⟨"com/example/lean_pubsub/leanpubsub/auth/Users", "authenticatedName", "(Ljava/lang/String;)Ljava/lang/String;"⟩ : MethodName) (head1 (Jvm.Cond.code (⟨"com/example/lean_pubsub/leanpubsub/auth/Users", "authenticatedName", "(Ljava/lang/String;)Ljava/lang/String;"⟩ : MethodName) prog_14_method_4_code 2 (some (.object "java/lang/String")) :: ws) ({ frames := 0, cells := 0, slots := 0, locals := 0 } : Room)) (fun a_ U_ => a_ = #[(.ref a), (.ref s0)] ∧ Z.Warmed39 U_.vm ∧ U_.heap = h0) (fun _ _ _ _ _ => True) (fun _ U_ o_ U'_ => ∃ v_ L_, o_ = .returned v_ ∧ QR .null h0 n0 v_ U'_.heap L_ ∧ FrameEnd U_ o_ U'_ L_ ({ frames := 0, cells := 0, slots := 0, locals := 0 } : Room).cells ({ frames := 0, cells := 0, slots := 0, locals := 0 } : Room).slots) := by
  refine MetFree.of_bodySF (plainFor_of_name pn_3) hisR ?_
  intro p e s m args below meth c s₁ Bd hml0 hP hK
  obtain ⟨rfl, hZ, hh⟩ := hP
  have hx := Bd.exec
  have hby := Bd.bytes
  have hml : c.maxLocals = 2 := hml0
  have hown : s.vm.findClass "com/example/lean_pubsub/leanpubsub/auth/Users" = some m.cls := findClass_of_methodNamed Bd.named
  have hnm := (name_of_methodNamed Bd.named Bd.method).1
  have hlk := BodyLoose.notSynchronized Bd
  have X0 : Stand p l e ({ frames := 0, cells := 0, slots := 0, locals := 0 } : Room) s m #[(.ref a), (.ref s0)] below meth c s₁ [] 0 0 := Stand.of_body Bd
  have e0 : s₁.heap = h0 := by rw [← hh, Bd.state]; rfl
  have N0 := Fr.nil n0
  refine own_entry (P := own_End s (QR .null h0 n0) ({ frames := 0, cells := 0, slots := 0, locals := 0 } : Room).cells ({ frames := 0, cells := 0, slots := 0, locals := 0 } : Room).slots) (ef_rmA0R m a s0) ?_
  show own_Go p e below _ s₁ (mkF m 0 #[.val (.ref a), .val (.ref s0)] [])
  refine own_st (fun t_ k_ => XS.aloadN X0.here hx rfl (hb hby d8_0) rfl rfl k_) ?_
  show own_Go p e below _ s₁ (mkF m 1 #[.val (.ref a), .val (.ref s0)] [(.ref a)])
  obtain ⟨T1, X1, e1, st1⟩ := getF X0 hx hZ hown (host := "") (Or.inl (hw _ (List.mem_of_getElem? (i := 51) rfl))) Via.refl e0 F (g := (mkF m 1 #[.val (.ref a), .val (.ref s0)] [(.ref a)])) rfl rfl (hb hby d8_1)
  refine own_st st1 ?_
  show own_Go p e below _ T1 (mkF m 4 #[.val (.ref a), .val (.ref s0)] [(.int (0 : Int32))])
  refine own_st (fun t_ k_ => XS.ifYes X1.here hx rfl (pc0 := 4) (pc' := 11) rfl (hb hby d8_4) rfl (by decide) (by decide) (by decide) k_) ?_
  show own_Go p e below _ T1 (mkF m 11 #[.val (.ref a), .val (.ref s0)] [])
  refine own_st (fun t_ k_ => XS.aconstNull X1.here hx rfl (hb hby d8_11) k_) ?_
  show own_Go p e below _ T1 (mkF m 12 #[.val (.ref a), .val (.ref s0)] [.null])
  refine own_retA X1 hx hlk Bd.returns rfl rfl (hb hby d8_12) ?_ (by decide) (by decide)
  show QR .null h0 n0 _ T1.heap _
  rw [e1]
  exact ⟨rfl, N0, rfl⟩
theorem ef_rmA0N (m : MethodId) (x0 : Addr) : entryFrame m #[(.ref x0), .null] 2 = mkF m 0 #[.val (.ref x0), .val .null] [] := by first | (simp [entryFrame, mkF, argsToLocals, Value.category]; done) | rfl
set_option maxRecDepth 65536 in
set_option maxHeartbeats 40000000 in
theorem rmA0N (l : Launch) (Z : State) (a0 : Array Value) (hw : ∀ d ∈ tables_1, d.before a0 Z = true) (ws : List Jvm.Cond) (a : Addr) (h0 : Heap) (n0 : Nat) (Z0 : n0 ≤ h0.size) (F : Fld Z h0 a "com/example/lean_pubsub/leanpubsub/auth/Users" "namesChecked" "Z" (.int (0 : Int32))) :
    MetFree l (⟨"com/example/lean_pubsub/leanpubsub/auth/Users", "authenticatedName", "(Ljava/lang/String;)Ljava/lang/String;"⟩ : MethodName) (head1 (Jvm.Cond.code (⟨"com/example/lean_pubsub/leanpubsub/auth/Users", "authenticatedName", "(Ljava/lang/String;)Ljava/lang/String;"⟩ : MethodName) prog_14_method_4_code 2 (some (.object "java/lang/String")) :: ws) ({ frames := 0, cells := 0, slots := 0, locals := 0 } : Room)) (fun a_ U_ => a_ = #[(.ref a), .null] ∧ Z.Warmed39 U_.vm ∧ U_.heap = h0) (fun _ _ _ _ _ => True) (fun _ U_ o_ U'_ => ∃ v_ L_, o_ = .returned v_ ∧ QR .null h0 n0 v_ U'_.heap L_ ∧ FrameEnd U_ o_ U'_ L_ ({ frames := 0, cells := 0, slots := 0, locals := 0 } : Room).cells ({ frames := 0, cells := 0, slots := 0, locals := 0 } : Room).slots) := by
  refine MetFree.of_bodySF (plainFor_of_name pn_3) hisR ?_
  intro p e s m args below meth c s₁ Bd hml0 hP hK
  obtain ⟨rfl, hZ, hh⟩ := hP
  have hx := Bd.exec
  have hby := Bd.bytes
  have hml : c.maxLocals = 2 := hml0
  have hown : s.vm.findClass "com/example/lean_pubsub/leanpubsub/auth/Users" = some m.cls := findClass_of_methodNamed Bd.named
  have hnm := (name_of_methodNamed Bd.named Bd.method).1
  have hlk := BodyLoose.notSynchronized Bd
  have X0 : Stand p l e ({ frames := 0, cells := 0, slots := 0, locals := 0 } : Room) s m #[(.ref a), .null] below meth c s₁ [] 0 0 := Stand.of_body Bd
  have e0 : s₁.heap = h0 := by rw [← hh, Bd.state]; rfl
  have N0 := Fr.nil n0
  refine own_entry (P := own_End s (QR .null h0 n0) ({ frames := 0, cells := 0, slots := 0, locals := 0 } : Room).cells ({ frames := 0, cells := 0, slots := 0, locals := 0 } : Room).slots) (ef_rmA0N m a) ?_
  show own_Go p e below _ s₁ (mkF m 0 #[.val (.ref a), .val .null] [])
  refine own_st (fun t_ k_ => XS.aloadN X0.here hx rfl (hb hby d8_0) rfl rfl k_) ?_
  show own_Go p e below _ s₁ (mkF m 1 #[.val (.ref a), .val .null] [(.ref a)])
  obtain ⟨T1, X1, e1, st1⟩ := getF X0 hx hZ hown (host := "") (Or.inl (hw _ (List.mem_of_getElem? (i := 51) rfl))) Via.refl e0 F (g := (mkF m 1 #[.val (.ref a), .val .null] [(.ref a)])) rfl rfl (hb hby d8_1)
  refine own_st st1 ?_
  show own_Go p e below _ T1 (mkF m 4 #[.val (.ref a), .val .null] [(.int (0 : Int32))])
  refine own_st (fun t_ k_ => XS.ifYes X1.here hx rfl (pc0 := 4) (pc' := 11) rfl (hb hby d8_4) rfl (by decide) (by decide) (by decide) k_) ?_
  show own_Go p e below _ T1 (mkF m 11 #[.val (.ref a), .val .null] [])
  refine own_st (fun t_ k_ => XS.aconstNull X1.here hx rfl (hb hby d8_11) k_) ?_
  show own_Go p e below _ T1 (mkF m 12 #[.val (.ref a), .val .null] [.null])
  refine own_retA X1 hx hlk Bd.returns rfl rfl (hb hby d8_12) ?_ (by decide) (by decide)
  show QR .null h0 n0 _ T1.heap _
  rw [e1]
  exact ⟨rfl, N0, rfl⟩
theorem d8_7 : decode prog_14_method_4_code 7 = .ok (.aload_n 1, 1) := by decide +kernel
theorem d8_8 : decode prog_14_method_4_code 8 = .ok (.goto 4, 3) := by decide +kernel
theorem ef_rmA1R (m : MethodId) (x0 : Addr) (x1 : Addr) : entryFrame m #[(.ref x0), (.ref x1)] 2 = mkF m 0 #[.val (.ref x0), .val (.ref x1)] [] := by first | (simp [entryFrame, mkF, argsToLocals, Value.category]; done) | rfl
set_option maxRecDepth 65536 in
set_option maxHeartbeats 40000000 in
theorem rmA1R (l : Launch) (Z : State) (a0 : Array Value) (hw : ∀ d ∈ tables_1, d.before a0 Z = true) (ws : List Jvm.Cond) (a s0 : Addr) (h0 : Heap) (n0 : Nat) (Z0 : n0 ≤ h0.size) (F : Fld Z h0 a "com/example/lean_pubsub/leanpubsub/auth/Users" "namesChecked" "Z" (.int (1 : Int32))) :
    MetFree l (⟨"com/example/lean_pubsub/leanpubsub/auth/Users", "authenticatedName", "(Ljava/lang/String;)Ljava/lang/String;"⟩ : MethodName) (head1 (Jvm.Cond.code (⟨"com/example/lean_pubsub/leanpubsub/auth/Users", "authenticatedName", "(Ljava/lang/String;)Ljava/lang/String;"⟩ : MethodName) prog_14_method_4_code 2 (some (.object "java/lang/String")) :: ws) ({ frames := 0, cells := 0, slots := 0, locals := 0 } : Room)) (fun a_ U_ => a_ = #[(.ref a), (.ref s0)] ∧ Z.Warmed39 U_.vm ∧ U_.heap = h0) (fun _ _ _ _ _ => True) (fun _ U_ o_ U'_ => ∃ v_ L_, o_ = .returned v_ ∧ QR (.ref s0) h0 n0 v_ U'_.heap L_ ∧ FrameEnd U_ o_ U'_ L_ ({ frames := 0, cells := 0, slots := 0, locals := 0 } : Room).cells ({ frames := 0, cells := 0, slots := 0, locals := 0 } : Room).slots) := by
  refine MetFree.of_bodySF (plainFor_of_name pn_3) hisR ?_
  intro p e s m args below meth c s₁ Bd hml0 hP hK
  obtain ⟨rfl, hZ, hh⟩ := hP
  have hx := Bd.exec
  have hby := Bd.bytes
  have hml : c.maxLocals = 2 := hml0
  have hown : s.vm.findClass "com/example/lean_pubsub/leanpubsub/auth/Users" = some m.cls := findClass_of_methodNamed Bd.named
  have hnm := (name_of_methodNamed Bd.named Bd.method).1
  have hlk := BodyLoose.notSynchronized Bd
  have X0 : Stand p l e ({ frames := 0, cells := 0, slots := 0, locals := 0 } : Room) s m #[(.ref a), (.ref s0)] below meth c s₁ [] 0 0 := Stand.of_body Bd
  have e0 : s₁.heap = h0 := by rw [← hh, Bd.state]; rfl
  have N0 := Fr.nil n0
  refine own_entry (P := own_End s (QR (.ref s0) h0 n0) ({ frames := 0, cells := 0, slots := 0, locals := 0 } : Room).cells ({ frames := 0, cells := 0, slots := 0, locals := 0 } : Room).slots) (ef_rmA1R m a s0) ?_
  show own_Go p e below _ s₁ (mkF m 0 #[.val (.ref a), .val (.ref s0)] [])
  refine own_st (fun t_ k_ => XS.aloadN X0.here hx rfl (hb hby d8_0) rfl rfl k_) ?_
  show own_Go p e below _ s₁ (mkF m 1 #[.val (.ref a), .val (.ref s0)] [(.ref a)])
  obtain ⟨T1, X1, e1, st1⟩ := getF X0 hx hZ hown (host := "") (Or.inl (hw _ (List.mem_of_getElem? (i := 51) rfl))) Via.refl e0 F (g := (mkF m 1 #[.val (.ref a), .val (.ref s0)] [(.ref a)])) rfl rfl (hb hby d8_1)
  refine own_st st1 ?_
  show own_Go p e below _ T1 (mkF m 4 #[.val (.ref a), .val (.ref s0)] [(.int (1 : Int32))])
  refine own_st (fun t_ k_ => XS.ifNo X1.here hx rfl (hb hby d8_4) rfl (by decide) k_) ?_
  show own_Go p e below _ T1 (mkF m 7 #[.val (.ref a), .val (.ref s0)] [])
  refine own_st (fun t_ k_ => XS.aloadN X1.here hx rfl (hb hby d8_7) rfl rfl k_) ?_
  show own_Go p e below _ T1 (mkF m 8 #[.val (.ref a), .val (.ref s0)] [(.ref s0)])
  refine own_st (fun t_ k_ => XS.goto X1.here hx rfl (pc0 := 8) (pc' := 12) rfl (hb hby d8_8) (by decide) (by decide) k_) ?_
  show own_Go p e below _ T1 (mkF m 12 #[.val (.ref a), .val (.ref s0)] [(.ref s0)])
  refine own_retA X1 hx hlk Bd.returns rfl rfl (hb hby d8_12) ?_ (by decide) (by decide)
  show QR (.ref s0) h0 n0 _ T1.heap _
  rw [e1]
  exact ⟨rfl, N0, rfl⟩
theorem ef_rmA1N (m : MethodId) (x0 : Addr) : entryFrame m #[(.ref x0), .null] 2 = mkF m 0 #[.val (.ref x0), .val .null] [] := by first | (simp [entryFrame, mkF, argsToLocals, Value.category]; done) | rfl
set_option maxRecDepth 65536 in
set_option maxHeartbeats 40000000 in
theorem rmA1N (l : Launch) (Z : State) (a0 : Array Value) (hw : ∀ d ∈ tables_1, d.before a0 Z = true) (ws : List Jvm.Cond) (a : Addr) (h0 : Heap) (n0 : Nat) (Z0 : n0 ≤ h0.size) (F : Fld Z h0 a "com/example/lean_pubsub/leanpubsub/auth/Users" "namesChecked" "Z" (.int (1 : Int32))) :
    MetFree l (⟨"com/example/lean_pubsub/leanpubsub/auth/Users", "authenticatedName", "(Ljava/lang/String;)Ljava/lang/String;"⟩ : MethodName) (head1 (Jvm.Cond.code (⟨"com/example/lean_pubsub/leanpubsub/auth/Users", "authenticatedName", "(Ljava/lang/String;)Ljava/lang/String;"⟩ : MethodName) prog_14_method_4_code 2 (some (.object "java/lang/String")) :: ws) ({ frames := 0, cells := 0, slots := 0, locals := 0 } : Room)) (fun a_ U_ => a_ = #[(.ref a), .null] ∧ Z.Warmed39 U_.vm ∧ U_.heap = h0) (fun _ _ _ _ _ => True) (fun _ U_ o_ U'_ => ∃ v_ L_, o_ = .returned v_ ∧ QR .null h0 n0 v_ U'_.heap L_ ∧ FrameEnd U_ o_ U'_ L_ ({ frames := 0, cells := 0, slots := 0, locals := 0 } : Room).cells ({ frames := 0, cells := 0, slots := 0, locals := 0 } : Room).slots) := by
  refine MetFree.of_bodySF (plainFor_of_name pn_3) hisR ?_
  intro p e s m args below meth c s₁ Bd hml0 hP hK
  obtain ⟨rfl, hZ, hh⟩ := hP
  have hx := Bd.exec
  have hby := Bd.bytes
  have hml : c.maxLocals = 2 := hml0
  have hown : s.vm.findClass "com/example/lean_pubsub/leanpubsub/auth/Users" = some m.cls := findClass_of_methodNamed Bd.named
  have hnm := (name_of_methodNamed Bd.named Bd.method).1
  have hlk := BodyLoose.notSynchronized Bd
  have X0 : Stand p l e ({ frames := 0, cells := 0, slots := 0, locals := 0 } : Room) s m #[(.ref a), .null] below meth c s₁ [] 0 0 := Stand.of_body Bd
  have e0 : s₁.heap = h0 := by rw [← hh, Bd.state]; rfl
  have N0 := Fr.nil n0
  refine own_entry (P := own_End s (QR .null h0 n0) ({ frames := 0, cells := 0, slots := 0, locals := 0 } : Room).cells ({ frames := 0, cells := 0, slots := 0, locals := 0 } : Room).slots) (ef_rmA1N m a) ?_
  show own_Go p e below _ s₁ (mkF m 0 #[.val (.ref a), .val .null] [])
  refine own_st (fun t_ k_ => XS.aloadN X0.here hx rfl (hb hby d8_0) rfl rfl k_) ?_
  show own_Go p e below _ s₁ (mkF m 1 #[.val (.ref a), .val .null] [(.ref a)])
  obtain ⟨T1, X1, e1, st1⟩ := getF X0 hx hZ hown (host := "") (Or.inl (hw _ (List.mem_of_getElem? (i := 51) rfl))) Via.refl e0 F (g := (mkF m 1 #[.val (.ref a), .val .null] [(.ref a)])) rfl rfl (hb hby d8_1)
  refine own_st st1 ?_
  show own_Go p e below _ T1 (mkF m 4 #[.val (.ref a), .val .null] [(.int (1 : Int32))])
  refine own_st (fun t_ k_ => XS.ifNo X1.here hx rfl (hb hby d8_4) rfl (by decide) k_) ?_
  show own_Go p e below _ T1 (mkF m 7 #[.val (.ref a), .val .null] [])
  refine own_st (fun t_ k_ => XS.aloadN X1.here hx rfl (hb hby d8_7) rfl rfl k_) ?_
  show own_Go p e below _ T1 (mkF m 8 #[.val (.ref a), .val .null] [.null])
  refine own_st (fun t_ k_ => XS.goto X1.here hx rfl (pc0 := 8) (pc' := 12) rfl (hb hby d8_8) (by decide) (by decide) k_) ?_
  show own_Go p e below _ T1 (mkF m 12 #[.val (.ref a), .val .null] [.null])
  refine own_retA X1 hx hlk Bd.returns rfl rfl (hb hby d8_12) ?_ (by decide) (by decide)
  show QR .null h0 n0 _ T1.heap _
  rw [e1]
  exact ⟨rfl, N0, rfl⟩
theorem d9_0 : decode jdk_42_method_66_code 0 = .ok (.aload_n 0, 1) := by decide +kernel
theorem d9_1 : decode jdk_42_method_66_code 1 = .ok (.aload_n 1, 1) := by decide +kernel
theorem d9_2 : decode jdk_42_method_66_code 2 = .ok (.if_acmp .ne 5, 3) := by decide +kernel
theorem d9_5 : decode jdk_42_method_66_code 5 = .ok (.iconst 1, 1) := by decide +kernel
theorem d9_6 : decode jdk_42_method_66_code 6 = .ok (.ireturn, 1) := by decide +kernel
theorem ef_rmQ (m : MethodId) (x0 : Addr) (x1 : Addr) : entryFrame m #[(.ref x0), (.ref x1)] 3 = mkF m 0 #[.val (.ref x0), .val (.ref x1), .unset] [] := by first | (simp [entryFrame, mkF, argsToLocals, Value.category]; done) | rfl
set_option maxRecDepth 65536 in
set_option maxHeartbeats 40000000 in
theorem rmQ (l : Launch) (Z : State) (a0 : Array Value) (hw : ∀ d ∈ tables_1, d.before a0 Z = true) (ws : List Jvm.Cond) (a : Addr) (h0 : Heap) (n0 : Nat) (Z0 : n0 ≤ h0.size) :
    MetFree l (⟨"java/lang/String", "equals", "(Ljava/lang/Object;)Z"⟩ : MethodName) (head1 (Jvm.Cond.code (⟨"java/lang/String", "equals", "(Ljava/lang/Object;)Z"⟩ : MethodName) jdk_42_method_66_code 3 (some .boolean) :: ws) ({ frames := 0, cells := 0, slots := 0, locals := 0 } : Room)) (fun a_ U_ => a_ = #[(.ref a), (.ref a)] ∧ Z.Warmed39 U_.vm ∧ U_.heap = h0) (fun _ _ _ _ _ => True) (fun _ U_ o_ U'_ => ∃ v_ L_, o_ = .returned v_ ∧ QR (.int 1) h0 n0 v_ U'_.heap L_ ∧ FrameEnd U_ o_ U'_ L_ ({ frames := 0, cells := 0, slots := 0, locals := 0 } : Room).cells ({ frames := 0, cells := 0, slots := 0, locals := 0 } : Room).slots) := by
  refine MetFree.of_bodySF (plainFor_of_name pn_0) hisR ?_
  intro p e s m args below meth c s₁ Bd hml0 hP hK
  obtain ⟨rfl, hZ, hh⟩ := hP
  have hx := Bd.exec
  have hby := Bd.bytes
  have hml : c.maxLocals = 3 := hml0
  have hown : s.vm.findClass "java/lang/String" = some m.cls := findClass_of_methodNamed Bd.named
  have hnm := (name_of_methodNamed Bd.named Bd.method).1
  have hlk := BodyLoose.notSynchronized Bd
  have X0 : Stand p l e ({ frames := 0, cells := 0, slots := 0, locals := 0 } : Room) s m #[(.ref a), (.ref a)] below meth c s₁ [] 0 0 := Stand.of_body Bd
  have e0 : s₁.heap = h0 := by rw [← hh, Bd.state]; rfl
  have N0 := Fr.nil n0
  refine own_entry (P := own_End s (QR (.int 1) h0 n0) ({ frames := 0, cells := 0, slots := 0, locals := 0 } : Room).cells ({ frames := 0, cells := 0, slots := 0, locals := 0 } : Room).slots) (ef_rmQ m a a) ?_
  show own_Go p e below _ s₁ (mkF m 0 #[.val (.ref a), .val (.ref a), .unset] [])
  refine own_st (fun t_ k_ => XS.aloadN X0.here hx rfl (hb hby d9_0) rfl rfl k_) ?_
  show own_Go p e below _ s₁ (mkF m 1 #[.val (.ref a), .val (.ref a), .unset] [(.ref a)])
  refine own_st (fun t_ k_ => XS.aloadN X0.here hx rfl (hb hby d9_1) rfl rfl k_) ?_
  show own_Go p e below _ s₁ (mkF m 2 #[.val (.ref a), .val (.ref a), .unset] [(.ref a), (.ref a)])
  refine own_st (fun t_ k_ => Jvm.RoadKit.acmp (g := (mkF m 2 #[.val (.ref a), .val (.ref a), .unset] [(.ref a), (.ref a)])) X0 hx rfl rfl rfl (pc0 := 2) (pc' := 5) (same := true) rfl (hb hby d9_2) rfl (decide_eq_true rfl) (by decide) (by decide) k_) ?_
  show own_Go p e below _ s₁ (mkF m 5 #[.val (.ref a), .val (.ref a), .unset] [])
  refine own_st (fun t_ k_ => XS.iconst X0.here hx rfl (hb hby d9_5) k_) ?_
  show own_Go p e below _ s₁ (mkF m 6 #[.val (.ref a), .val (.ref a), .unset] [(.int (1 : Int32))])
  refine own_retN X0 hx hlk (t := .boolean) Bd.returns (by simp) (hb hby d9_6) ?_ (by decide) (by decide)
  show QR (.int 1) h0 n0 _ s₁.heap _
  rw [e0]
  exact ⟨rfl, N0, rfl⟩
def Q0 (n0 : Nat) (v : Option Value) (h : Heap) (L : List Loc) : Prop := v = some (.int 1) ∧ Fr n0 L
theorem pd_4 : parseMethodDescriptor "(IIII)Ljava/lang/String;" = some ⟨[.int, .int, .int, .int], some (.object "java/lang/String")⟩ := by decide +kernel
theorem pd_5 : parseMethodDescriptor "()Ljava/util/Map;" = some ⟨[], some (.object "java/util/Map")⟩ := by decide +kernel
theorem pd_6 : parseMethodDescriptor "(Ljava/util/Map;Z)V" = some ⟨[(.object "java/util/Map"), .boolean], none⟩ := by decide +kernel
theorem pd_7 : parseMethodDescriptor "(Ljava/lang/String;)Ljava/lang/String;" = some ⟨[(.object "java/lang/String")], some (.object "java/lang/String")⟩ := by decide +kernel
theorem pd_8 : parseMethodDescriptor "(Ljava/lang/Object;)Z" = some ⟨[(.object "java/lang/Object")], some .boolean⟩ := by decide +kernel
theorem ef_rm0 (m : MethodId) (x0 : Int32) (x1 : Int32) (x2 : Int32) (x3 : Int32) : entryFrame m #[(.int x0), (.int x1), (.int x2), (.int x3)] maxLocals = mkF m 0 #[.val (.int x0), .val (.int x1), .val (.int x2), .val (.int x3), .unset, .unset, .unset, .unset, .unset, .unset, .unset] [] := by first | (simp [entryFrame, mkF, argsToLocals, Value.category, maxLocals]; done) | rfl
set_option maxRecDepth 65536 in
set_option maxHeartbeats 40000000 in
theorem rm0 (l : Launch) (Z : State) (a0 : Array Value) (hw : ∀ d ∈ tables_1, d.before a0 Z = true) (ws : List Jvm.Cond) (fg c0 c1 c2 G : Int32) (em an : Addr) (h0 : Heap) (n0 : Nat) (Z0 : n0 ≤ h0.size) (SC : Sta Z Z.heap "java/lang/String" "COMPACT_STRINGS" "Z" (.int G)) (hCS : ¬ G = 0) (O0 : Old Z n0 h0) (SM : Sta Z Z.heap "java/util/ImmutableCollections" "EMPTY_MAP" "Ljava/util/ImmutableCollections$MapN;" (.ref em)) (SA : Sta Z Z.heap "com/example/lean_pubsub/leanpubsub/auth/Users" "ANYONE" "Lcom/example/lean_pubsub/leanpubsub/auth/Users;" (.ref an)) (Em : Exa Z h0 em "java/util/ImmutableCollections$MapN") (Ean : Exa Z h0 an "com/example/lean_pubsub/leanpubsub/auth/Users") (Fan : Fld Z h0 an "com/example/lean_pubsub/leanpubsub/auth/Users" "namesChecked" "Z" (.int (0 : Int32))) :
    MetFree l x (head1 (Jvm.Cond.code x code maxLocals ret :: ws) room_1) (fun a_ U_ => a_ = #[(.int fg), (.int c0), (.int c1), (.int c2)] ∧ Z.Warmed39 U_.vm ∧ U_.heap = h0 ∧ CHv Z consts_1 U_.vm h0) (fun _ _ _ _ _ => True) (fun _ U_ o_ U'_ => ∃ v_ L_, o_ = .returned v_ ∧ Q0 n0 v_ U'_.heap L_ ∧ CHr Z consts_1 U_.vm U_.heap U'_.vm U'_.heap ∧ ReturnedEndW U_ o_ U'_ L_ 24 1152) := by
  refine MetFree.of_bodySF (plainFor_of_name pn_1) hisR ?_
  intro p e s m args below meth c s₁ Bd hml0 hP hK
  obtain ⟨rfl, hZ, hh, hC0⟩ := hP
  have hx := Bd.exec
  have hby := Bd.bytes
  have hml : c.maxLocals = 11 := hml0
  have hown : s.vm.findClass "com/example/lean_pubsub/leanpubsub/auth/UsersAuthenticatedNamePinLaw" = some m.cls := findClass_of_methodNamed Bd.named
  have hnm := (name_of_methodNamed Bd.named Bd.method).1
  have hlk := BodyLoose.notSynchronized Bd
  have X0 : Stand p l e room_1 (s.setVm s.vm) m #[(.int fg), (.int c0), (.int c1), (.int c2)] below meth c s₁ [] 0 0 := Stand.of_body Bd
  have e0 : s₁.heap = h0 := by rw [← hh, Bd.state]; rfl
  have N0 := Fr.nil n0
  have hEL := own_EL hw
  have B0 : own_Bk Z consts_1 s h0 s.vm h0 := own_Bk.start hC0
  refine own_entry (P := own_EndS Z consts_1 s (Q0 n0) 24 1152) (ef_rm0 m fg c0 c1 c2) ?_
  show own_Go p e below _ s₁ (mkF m 0 #[.val (.int fg), .val (.int c0), .val (.int c1), .val (.int c2), .unset, .unset, .unset, .unset, .unset, .unset, .unset] [])
  refine own_st (fun t_ k_ => XS.iloadN X0.here hx rfl (hb hby at_0) rfl k_) ?_
  show own_Go p e below _ s₁ (mkF m 1 #[.val (.int fg), .val (.int c0), .val (.int c1), .val (.int c2), .unset, .unset, .unset, .unset, .unset, .unset, .unset] [(.int fg)])
  refine own_st (fun t_ k_ => XS.iconst X0.here hx rfl (hb hby at_1) k_) ?_
  show own_Go p e below _ s₁ (mkF m 2 #[.val (.int fg), .val (.int c0), .val (.int c1), .val (.int c2), .unset, .unset, .unset, .unset, .unset, .unset, .unset] [(.int (1 : Int32)), (.int fg)])
  refine own_st (fun t_ k_ => XS.iand X0.here hx rfl (hb hby at_2) rfl k_) ?_
  show own_Go p e below _ s₁ (mkF m 3 #[.val (.int fg), .val (.int c0), .val (.int c1), .val (.int c2), .unset, .unset, .unset, .unset, .unset, .unset, .unset] [(.int (fg &&& (1 : Int32)))])
  refine own_join (α := Int32) (F := fun bz => bz = (0 : Int32) ∨ bz = (1 : Int32)) (T' := s₁) (g' := fun bz => (mkF m 11 #[.val (.int fg), .val (.int c0), .val (.int c1), .val (.int c2), .unset, .unset, .unset, .unset, .unset, .unset, .unset] [(.int bz)])) (fun bz h_bz => ?_) (fun J_bz => ?_)
  · show own_Go p e below _ s₁ (mkF m 11 #[.val (.int fg), .val (.int c0), .val (.int c1), .val (.int c2), .unset, .unset, .unset, .unset, .unset, .unset, .unset] [(.int bz)])
    refine own_st (fun t_ k_ => XS.istore X0.here hx rfl (hb hby at_11) rfl (l' := #[.val (.int fg), .val (.int c0), .val (.int c1), .val (.int c2), .val (.int bz), .unset, .unset, .unset, .unset, .unset, .unset]) rfl k_) ?_
    show own_Go p e below _ s₁ (mkF m 13 #[.val (.int fg), .val (.int c0), .val (.int c1), .val (.int c2), .val (.int bz), .unset, .unset, .unset, .unset, .unset, .unset] [])
    refine own_st (fun t_ k_ => XS.iloadN X0.here hx rfl (hb hby at_13) rfl k_) ?_
    show own_Go p e below _ s₁ (mkF m 14 #[.val (.int fg), .val (.int c0), .val (.int c1), .val (.int c2), .val (.int bz), .unset, .unset, .unset, .unset, .unset, .unset] [(.int fg)])
    refine own_st (fun t_ k_ => XS.iconst X0.here hx rfl (hb hby at_14) k_) ?_
    show own_Go p e below _ s₁ (mkF m 15 #[.val (.int fg), .val (.int c0), .val (.int c1), .val (.int c2), .val (.int bz), .unset, .unset, .unset, .unset, .unset, .unset] [(.int (2 : Int32)), (.int fg)])
    refine own_st (fun t_ k_ => XS.iand X0.here hx rfl (hb hby at_15) rfl k_) ?_
    show own_Go p e below _ s₁ (mkF m 16 #[.val (.int fg), .val (.int c0), .val (.int c1), .val (.int c2), .val (.int bz), .unset, .unset, .unset, .unset, .unset, .unset] [(.int (fg &&& (2 : Int32)))])
    refine own_join (α := Int32) (F := fun b5 => b5 = (0 : Int32) ∨ b5 = (1 : Int32)) (T' := s₁) (g' := fun b5 => (mkF m 24 #[.val (.int fg), .val (.int c0), .val (.int c1), .val (.int c2), .val (.int bz), .unset, .unset, .unset, .unset, .unset, .unset] [(.int b5)])) (fun b5 h_b5 => ?_) (fun J_b5 => ?_)
    · show own_Go p e below _ s₁ (mkF m 24 #[.val (.int fg), .val (.int c0), .val (.int c1), .val (.int c2), .val (.int bz), .unset, .unset, .unset, .unset, .unset, .unset] [(.int b5)])
      refine own_st (fun t_ k_ => XS.istore X0.here hx rfl (hb hby at_24) rfl (l' := #[.val (.int fg), .val (.int c0), .val (.int c1), .val (.int c2), .val (.int bz), .val (.int b5), .unset, .unset, .unset, .unset, .unset]) rfl k_) ?_
      show own_Go p e below _ s₁ (mkF m 26 #[.val (.int fg), .val (.int c0), .val (.int c1), .val (.int c2), .val (.int bz), .val (.int b5), .unset, .unset, .unset, .unset, .unset] [])
      refine own_st (fun t_ k_ => XS.iloadN X0.here hx rfl (hb hby at_26) rfl k_) ?_
      show own_Go p e below _ s₁ (mkF m 27 #[.val (.int fg), .val (.int c0), .val (.int c1), .val (.int c2), .val (.int bz), .val (.int b5), .unset, .unset, .unset, .unset, .unset] [(.int fg)])
      refine own_st (fun t_ k_ => XS.iconst X0.here hx rfl (hb hby at_27) k_) ?_
      show own_Go p e below _ s₁ (mkF m 28 #[.val (.int fg), .val (.int c0), .val (.int c1), .val (.int c2), .val (.int bz), .val (.int b5), .unset, .unset, .unset, .unset, .unset] [(.int (4 : Int32)), (.int fg)])
      refine own_st (fun t_ k_ => XS.iand X0.here hx rfl (hb hby at_28) rfl k_) ?_
      show own_Go p e below _ s₁ (mkF m 29 #[.val (.int fg), .val (.int c0), .val (.int c1), .val (.int c2), .val (.int bz), .val (.int b5), .unset, .unset, .unset, .unset, .unset] [(.int (fg &&& (4 : Int32)))])
      refine own_join (α := Int32) (F := fun b6 => b6 = (0 : Int32) ∨ b6 = (1 : Int32)) (T' := s₁) (g' := fun b6 => (mkF m 37 #[.val (.int fg), .val (.int c0), .val (.int c1), .val (.int c2), .val (.int bz), .val (.int b5), .unset, .unset, .unset, .unset, .unset] [(.int b6)])) (fun b6 h_b6 => ?_) (fun J_b6 => ?_)
      · show own_Go p e below _ s₁ (mkF m 37 #[.val (.int fg), .val (.int c0), .val (.int c1), .val (.int c2), .val (.int bz), .val (.int b5), .unset, .unset, .unset, .unset, .unset] [(.int b6)])
        refine own_st (fun t_ k_ => XS.istore X0.here hx rfl (hb hby at_37) rfl (l' := #[.val (.int fg), .val (.int c0), .val (.int c1), .val (.int c2), .val (.int bz), .val (.int b5), .val (.int b6), .unset, .unset, .unset, .unset]) rfl k_) ?_
        show own_Go p e below _ s₁ (mkF m 39 #[.val (.int fg), .val (.int c0), .val (.int c1), .val (.int c2), .val (.int bz), .val (.int b5), .val (.int b6), .unset, .unset, .unset, .unset] [])
        refine own_st (fun t_ k_ => XS.iloadN X0.here hx rfl (hb hby at_39) rfl k_) ?_
        show own_Go p e below _ s₁ (mkF m 40 #[.val (.int fg), .val (.int c0), .val (.int c1), .val (.int c2), .val (.int bz), .val (.int b5), .val (.int b6), .unset, .unset, .unset, .unset] [(.int fg)])
        refine own_st (fun t_ k_ => XS.iconst X0.here hx rfl (hb hby at_40) k_) ?_
        show own_Go p e below _ s₁ (mkF m 41 #[.val (.int fg), .val (.int c0), .val (.int c1), .val (.int c2), .val (.int bz), .val (.int b5), .val (.int b6), .unset, .unset, .unset, .unset] [(.int (3 : Int32)), (.int fg)])
        refine own_st (fun t_ k_ => XS.iushr X0.here hx rfl (hb hby at_41) rfl k_) ?_
        show own_Go p e below _ s₁ (mkF m 42 #[.val (.int fg), .val (.int c0), .val (.int c1), .val (.int c2), .val (.int bz), .val (.int b5), .val (.int b6), .unset, .unset, .unset, .unset] [(.int ((fg.toUInt32 >>> ((3 : Int32) &&& 31).toUInt32).toInt32))])
        refine own_st (fun t_ k_ => XS.iconst X0.here hx rfl (hb hby at_42) k_) ?_
        show own_Go p e below _ s₁ (mkF m 43 #[.val (.int fg), .val (.int c0), .val (.int c1), .val (.int c2), .val (.int bz), .val (.int b5), .val (.int b6), .unset, .unset, .unset, .unset] [(.int (3 : Int32)), (.int ((fg.toUInt32 >>> ((3 : Int32) &&& 31).toUInt32).toInt32))])
        refine own_st (fun t_ k_ => XS.iand X0.here hx rfl (hb hby at_43) rfl k_) ?_
        show own_Go p e below _ s₁ (mkF m 44 #[.val (.int fg), .val (.int c0), .val (.int c1), .val (.int c2), .val (.int bz), .val (.int b5), .val (.int b6), .unset, .unset, .unset, .unset] [(.int (((fg.toUInt32 >>> ((3 : Int32) &&& 31).toUInt32).toInt32) &&& (3 : Int32)))])
        refine own_st (fun t_ k_ => XS.istore X0.here hx rfl (hb hby at_44) rfl (l' := #[.val (.int fg), .val (.int c0), .val (.int c1), .val (.int c2), .val (.int bz), .val (.int b5), .val (.int b6), .val (.int (((fg.toUInt32 >>> ((3 : Int32) &&& 31).toUInt32).toInt32) &&& (3 : Int32))), .unset, .unset, .unset]) rfl k_) ?_
        show own_Go p e below _ s₁ (mkF m 46 #[.val (.int fg), .val (.int c0), .val (.int c1), .val (.int c2), .val (.int bz), .val (.int b5), .val (.int b6), .val (.int (((fg.toUInt32 >>> ((3 : Int32) &&& 31).toUInt32).toInt32) &&& (3 : Int32))), .unset, .unset, .unset] [])
        refine own_st (fun t_ k_ => XS.iload X0.here hx rfl (hb hby at_46) rfl k_) ?_
        show own_Go p e below _ s₁ (mkF m 48 #[.val (.int fg), .val (.int c0), .val (.int c1), .val (.int c2), .val (.int bz), .val (.int b5), .val (.int b6), .val (.int (((fg.toUInt32 >>> ((3 : Int32) &&& 31).toUInt32).toInt32) &&& (3 : Int32))), .unset, .unset, .unset] [(.int b5)])
        rcases (h_b5 : b5 = (0 : Int32) ∨ b5 = (1 : Int32)) with rfl | rfl
        · show own_Go p e below _ s₁ (mkF m 48 #[.val (.int fg), .val (.int c0), .val (.int c1), .val (.int c2), .val (.int bz), .val (.int (0 : Int32)), .val (.int b6), .val (.int (((fg.toUInt32 >>> ((3 : Int32) &&& 31).toUInt32).toInt32) &&& (3 : Int32))), .unset, .unset, .unset] [(.int (0 : Int32))])
          refine own_st (fun t_ k_ => XS.ifYes X0.here hx rfl (pc0 := 48) (pc' := 55) rfl (hb hby at_48) rfl (by decide) (by decide) (by decide) k_) ?_
          show own_Go p e below _ s₁ (mkF m 55 #[.val (.int fg), .val (.int c0), .val (.int c1), .val (.int c2), .val (.int bz), .val (.int (0 : Int32)), .val (.int b6), .val (.int (((fg.toUInt32 >>> ((3 : Int32) &&& 31).toUInt32).toInt32) &&& (3 : Int32))), .unset, .unset, .unset] [])
          refine own_st (fun t_ k_ => XS.iload X0.here hx rfl (hb hby at_55) rfl k_) ?_
          show own_Go p e below _ s₁ (mkF m 57 #[.val (.int fg), .val (.int c0), .val (.int c1), .val (.int c2), .val (.int bz), .val (.int (0 : Int32)), .val (.int b6), .val (.int (((fg.toUInt32 >>> ((3 : Int32) &&& 31).toUInt32).toInt32) &&& (3 : Int32))), .unset, .unset, .unset] [(.int (((fg.toUInt32 >>> ((3 : Int32) &&& 31).toUInt32).toInt32) &&& (3 : Int32)))])
          refine own_st (fun t_ k_ => XS.iloadN X0.here hx rfl (hb hby at_57) rfl k_) ?_
          show own_Go p e below _ s₁ (mkF m 58 #[.val (.int fg), .val (.int c0), .val (.int c1), .val (.int c2), .val (.int bz), .val (.int (0 : Int32)), .val (.int b6), .val (.int (((fg.toUInt32 >>> ((3 : Int32) &&& 31).toUInt32).toInt32) &&& (3 : Int32))), .unset, .unset, .unset] [(.int c0), (.int (((fg.toUInt32 >>> ((3 : Int32) &&& 31).toUInt32).toInt32) &&& (3 : Int32)))])
          refine own_st (fun t_ k_ => XS.iloadN X0.here hx rfl (hb hby at_58) rfl k_) ?_
          show own_Go p e below _ s₁ (mkF m 59 #[.val (.int fg), .val (.int c0), .val (.int c1), .val (.int c2), .val (.int bz), .val (.int (0 : Int32)), .val (.int b6), .val (.int (((fg.toUInt32 >>> ((3 : Int32) &&& 31).toUInt32).toInt32) &&& (3 : Int32))), .unset, .unset, .unset] [(.int c1), (.int c0), (.int (((fg.toUInt32 >>> ((3 : Int32) &&& 31).toUInt32).toInt32) &&& (3 : Int32)))])
          refine own_st (fun t_ k_ => XS.iloadN X0.here hx rfl (hb hby at_59) rfl k_) ?_
          show own_Go p e below _ s₁ (mkF m 60 #[.val (.int fg), .val (.int c0), .val (.int c1), .val (.int c2), .val (.int bz), .val (.int (0 : Int32)), .val (.int b6), .val (.int (((fg.toUInt32 >>> ((3 : Int32) &&& 31).toUInt32).toInt32) &&& (3 : Int32))), .unset, .unset, .unset] [(.int c2), (.int c1), (.int c0), (.int (((fg.toUInt32 >>> ((3 : Int32) &&& 31).toUInt32).toInt32) &&& (3 : Int32)))])
          refine own_callSS X0 hx (y := (⟨"com/example/lean_pubsub/leanpubsub/auth/UsersAuthenticatedNamePinLaw", "draw", "(IIII)Ljava/lang/String;"⟩ : MethodName)) hown (mvT hZ (hw _ (List.mem_of_getElem? (i := 0) rfl))) (mvT hZ (hw _ (List.mem_of_getElem? (i := 1) rfl))) (mvT hZ (hw _ (List.mem_of_getElem? (i := 2) rfl))) (mvT hZ (hw _ (List.mem_of_getElem? (i := 3) rfl))) (by decide) (backOfSH (W := 0) (rmD l Z a0 hw [] (((fg.toUInt32 >>> ((3 : Int32) &&& 31).toUInt32).toInt32) &&& (3 : Int32)) c0 c1 c2 G h0 n0 (Nat.le_trans Z0 (Keep.refl h0 []).1) SC hCS O0) hZ (hw _ (List.mem_of_getElem? (i := 3) rfl)) (hw _ (List.mem_of_getElem? (i := 2) rfl)) (by decide) (by decide) hEL (own_Bk.ch B0)) (g := (mkF m 60 #[.val (.int fg), .val (.int c0), .val (.int c1), .val (.int c2), .val (.int bz), .val (.int (0 : Int32)), .val (.int b6), .val (.int (((fg.toUInt32 >>> ((3 : Int32) &&& 31).toUInt32).toInt32) &&& (3 : Int32))), .unset, .unset, .unset] [(.int c2), (.int c1), (.int c0), (.int (((fg.toUInt32 >>> ((3 : Int32) &&& 31).toUInt32).toInt32) &&& (3 : Int32)))])) rfl (by rw [hml]; rfl) (argsL := [(.int (((fg.toUInt32 >>> ((3 : Int32) &&& 31).toUInt32).toInt32) &&& (3 : Int32))), (.int c0), (.int c1), (.int c2)]) (rest := []) (lenOf pd_4 rfl) rfl (by show 2 * 0 + _ ≤ _; exact Nat.le_of_eq rfl) (hb hby at_60) rfl e0 (by decide) (by decide) hZ B0 ?_
          rintro v4 T4 L4 X4 ⟨x4, rfl, Nq4, Kq4, gx4, Ex4⟩ CH4 B4 hZ hown
          have N4 := Fr.app N0 Nq4
          have K4 : Keep h0 T4.heap [] := (Keep.refl h0 []).trans Kq4 all0
          show own_Go p e below _ T4 (mkF m 63 #[.val (.int fg), .val (.int c0), .val (.int c1), .val (.int c2), .val (.int bz), .val (.int (0 : Int32)), .val (.int b6), .val (.int (((fg.toUInt32 >>> ((3 : Int32) &&& 31).toUInt32).toInt32) &&& (3 : Int32))), .unset, .unset, .unset] [(.ref x4)])
          refine own_st (fun t_ k_ => XS.astore X4.here hx rfl (hb hby at_63) rfl rfl (l' := #[.val (.int fg), .val (.int c0), .val (.int c1), .val (.int c2), .val (.int bz), .val (.int (0 : Int32)), .val (.int b6), .val (.int (((fg.toUInt32 >>> ((3 : Int32) &&& 31).toUInt32).toInt32) &&& (3 : Int32))), .val (.ref x4), .unset, .unset]) rfl k_) ?_
          show own_Go p e below _ T4 (mkF m 65 #[.val (.int fg), .val (.int c0), .val (.int c1), .val (.int c2), .val (.int bz), .val (.int (0 : Int32)), .val (.int b6), .val (.int (((fg.toUInt32 >>> ((3 : Int32) &&& 31).toUInt32).toInt32) &&& (3 : Int32))), .val (.ref x4), .unset, .unset] [])
          refine own_st (fun t_ k_ => XS.iload X4.here hx rfl (hb hby at_65) rfl k_) ?_
          show own_Go p e below _ T4 (mkF m 67 #[.val (.int fg), .val (.int c0), .val (.int c1), .val (.int c2), .val (.int bz), .val (.int (0 : Int32)), .val (.int b6), .val (.int (((fg.toUInt32 >>> ((3 : Int32) &&& 31).toUInt32).toInt32) &&& (3 : Int32))), .val (.ref x4), .unset, .unset] [(.int b6)])
          rcases (h_b6 : b6 = (0 : Int32) ∨ b6 = (1 : Int32)) with rfl | rfl
          · show own_Go p e below _ T4 (mkF m 67 #[.val (.int fg), .val (.int c0), .val (.int c1), .val (.int c2), .val (.int bz), .val (.int (0 : Int32)), .val (.int (0 : Int32)), .val (.int (((fg.toUInt32 >>> ((3 : Int32) &&& 31).toUInt32).toInt32) &&& (3 : Int32))), .val (.ref x4), .unset, .unset] [(.int (0 : Int32))])
            refine own_st (fun t_ k_ => XS.ifYes X4.here hx rfl (pc0 := 67) (pc' := 76) rfl (hb hby at_67) rfl (by decide) (by decide) (by decide) k_) ?_
            show own_Go p e below _ T4 (mkF m 76 #[.val (.int fg), .val (.int c0), .val (.int c1), .val (.int c2), .val (.int bz), .val (.int (0 : Int32)), .val (.int (0 : Int32)), .val (.int (((fg.toUInt32 >>> ((3 : Int32) &&& 31).toUInt32).toInt32) &&& (3 : Int32))), .val (.ref x4), .unset, .unset] [])
            obtain ⟨T5, h5, X5, e5, E5, A5, D5, cel5, st5⟩ := newO X4 hx hZ hown (hw _ (List.mem_of_getElem? (i := 26) rfl)) (hw _ (List.mem_of_getElem? (i := 27) rfl)) (hw _ (List.mem_of_getElem? (i := 28) rfl)) rfl (g := (mkF m 76 #[.val (.int fg), .val (.int c0), .val (.int c1), .val (.int c2), .val (.int bz), .val (.int (0 : Int32)), .val (.int (0 : Int32)), .val (.int (((fg.toUInt32 >>> ((3 : Int32) &&& 31).toUInt32).toInt32) &&& (3 : Int32))), .val (.ref x4), .unset, .unset] [])) rfl (hb hby at_76) (by decide) (by decide)
            obtain ⟨nb5, g5⟩ : ∃ z, z = T4.heap.size := ⟨_, rfl⟩
            rw [← g5] at A5 D5 cel5 st5
            refine own_st st5 ?_
            have g_nb5 : n0 ≤ nb5 := Nat.le_trans (Nat.le_trans Z0 K4.1) (Nat.le_of_eq g5.symm)
            have K5 : Keep h0 h5 [] := K4.ext E5
            have sz_nb5 : h0.size ≤ nb5 := Nat.le_trans K4.1 (Nat.le_of_eq g5.symm)
            have B5 := own_Bk.ext E5 B4
            have Sf5 := Safe.ext E5 (own_Bk.ch B4) (Safe.new (Nat.le_of_eq g5.symm))
            have F5_passwords : Fld Z h5 nb5 "com/example/lean_pubsub/leanpubsub/auth/Users" "passwords" "Ljava/util/Map;" .null := D5 (Or.inr (hw _ (List.mem_of_getElem? (i := 48) rfl))) (ty := (.object "java/util/Map")) (by decide)
            have F5_anonymousAllowed : Fld Z h5 nb5 "com/example/lean_pubsub/leanpubsub/auth/Users" "anonymousAllowed" "Z" (.int (0 : Int32)) := D5 (Or.inr (hw _ (List.mem_of_getElem? (i := 50) rfl))) (ty := .boolean) (by decide)
            have F5_namesChecked : Fld Z h5 nb5 "com/example/lean_pubsub/leanpubsub/auth/Users" "namesChecked" "Z" (.int (0 : Int32)) := D5 (Or.inr (hw _ (List.mem_of_getElem? (i := 52) rfl))) (ty := .boolean) (by decide)
            show own_Go p e below _ T5 (mkF m 79 #[.val (.int fg), .val (.int c0), .val (.int c1), .val (.int c2), .val (.int bz), .val (.int (0 : Int32)), .val (.int (0 : Int32)), .val (.int (((fg.toUInt32 >>> ((3 : Int32) &&& 31).toUInt32).toInt32) &&& (3 : Int32))), .val (.ref x4), .unset, .unset] [(.ref nb5)])
            refine own_st (fun t_ k_ => XS.dup X5.here hx rfl (hb hby at_79) rfl rfl k_) ?_
            show own_Go p e below _ T5 (mkF m 80 #[.val (.int fg), .val (.int c0), .val (.int c1), .val (.int c2), .val (.int bz), .val (.int (0 : Int32)), .val (.int (0 : Int32)), .val (.int (((fg.toUInt32 >>> ((3 : Int32) &&& 31).toUInt32).toInt32) &&& (3 : Int32))), .val (.ref x4), .unset, .unset] [(.ref nb5), (.ref nb5)])
            have f6 := (O0.keep Kq4 all0)
            have f7 := (f6.ext E5)
            refine own_callS X5 hx (y := (⟨"java/util/Map", "of", "()Ljava/util/Map;"⟩ : MethodName)) hown (mvT hZ (hw _ (List.mem_of_getElem? (i := 29) rfl))) (mvT hZ (hw _ (List.mem_of_getElem? (i := 30) rfl))) (mvT hZ (hw _ (List.mem_of_getElem? (i := 31) rfl))) (mvT hZ (hw _ (List.mem_of_getElem? (i := 32) rfl))) (by decide) (backOf (W := 2) (rmO l Z a0 hw [] em h5 n0 (Nat.le_trans Z0 K5.1) (Sta.ext f7.2 SM)) hZ (hw _ (List.mem_of_getElem? (i := 32) rfl)) (hw _ (List.mem_of_getElem? (i := 31) rfl)) (by decide) (by decide)) (g := (mkF m 80 #[.val (.int fg), .val (.int c0), .val (.int c1), .val (.int c2), .val (.int bz), .val (.int (0 : Int32)), .val (.int (0 : Int32)), .val (.int (((fg.toUInt32 >>> ((3 : Int32) &&& 31).toUInt32).toInt32) &&& (3 : Int32))), .val (.ref x4), .unset, .unset] [(.ref nb5), (.ref nb5)])) rfl (by rw [hml]; rfl) (argsL := []) (rest := [(.ref nb5), (.ref nb5)]) (lenOf pd_5 rfl) rfl (by show 2 * 0 + _ ≤ _; exact Nat.le_of_eq rfl) (hb hby at_80) rfl e5 (by decide) (by decide) ?_
            rintro v8 T8 L8 X8 ⟨rfl, Nq8, hh8⟩
            have N8 := Fr.app N4 Nq8
            show own_Go p e below _ T8 (mkF m 83 #[.val (.int fg), .val (.int c0), .val (.int c1), .val (.int c2), .val (.int bz), .val (.int (0 : Int32)), .val (.int (0 : Int32)), .val (.int (((fg.toUInt32 >>> ((3 : Int32) &&& 31).toUInt32).toInt32) &&& (3 : Int32))), .val (.ref x4), .unset, .unset] [(.ref em), (.ref nb5), (.ref nb5)])
            refine own_st (fun t_ k_ => XS.iload X8.here hx rfl (hb hby at_83) rfl k_) ?_
            show own_Go p e below _ T8 (mkF m 85 #[.val (.int fg), .val (.int c0), .val (.int c1), .val (.int c2), .val (.int bz), .val (.int (0 : Int32)), .val (.int (0 : Int32)), .val (.int (((fg.toUInt32 >>> ((3 : Int32) &&& 31).toUInt32).toInt32) &&& (3 : Int32))), .val (.ref x4), .unset, .unset] [(.int bz), (.ref em), (.ref nb5), (.ref nb5)])
            have f9 := (Em.keep Kq4)
            have f10 := (Exa.ext E5 f9)
            refine own_callN X8 hx (y := (⟨"com/example/lean_pubsub/leanpubsub/auth/Users", "<init>", "(Ljava/util/Map;Z)V"⟩ : MethodName)) rfl hown (mvT hZ (hw _ (List.mem_of_getElem? (i := 35) rfl))) (mvT hZ (hw _ (List.mem_of_getElem? (i := 36) rfl))) (mvT hZ (hw _ (List.mem_of_getElem? (i := 37) rfl))) (by decide) (backOf (W := 1) (rmU1 l Z a0 hw [] nb5 em bz h5 n0 (Nat.le_trans Z0 K5.1) g_nb5 A5 F5_passwords F5_anonymousAllowed F5_namesChecked h_bz f10) hZ (hw _ (List.mem_of_getElem? (i := 37) rfl)) (hw _ (List.mem_of_getElem? (i := 28) rfl)) (by decide) (by decide)) (a := nb5) (g := (mkF m 85 #[.val (.int fg), .val (.int c0), .val (.int c1), .val (.int c2), .val (.int bz), .val (.int (0 : Int32)), .val (.int (0 : Int32)), .val (.int (((fg.toUInt32 >>> ((3 : Int32) &&& 31).toUInt32).toInt32) &&& (3 : Int32))), .val (.ref x4), .unset, .unset] [(.int bz), (.ref em), (.ref nb5), (.ref nb5)])) rfl (by rw [hml]; rfl) (argsL := [(.ref em), (.int bz)]) (rest := [(.ref nb5)]) (lenOf pd_6 rfl) rfl (by show 2 * 0 + _ ≤ _; exact Nat.le_of_eq rfl) (hb hby at_85) rfl hh8 (by decide) (by decide) ?_
            rintro v11 T11 L11 X11 ⟨rfl, Nq11, Kq11, Eq11, Fq11⟩
            have N11 := Fr.app N8 Nq11
            have K11 : Keep h0 T11.heap [] := K5.trans Kq11 (allS (Or.inr sz_nb5) all0)
            have Sk11 : ∀ x ∈ [nb5], _ := (sfS Sf5 sf0)
            have B11 := own_Bk.keep Kq11 Sk11 B5
            show own_Go p e below _ T11 (mkF m 88 #[.val (.int fg), .val (.int c0), .val (.int c1), .val (.int c2), .val (.int bz), .val (.int (0 : Int32)), .val (.int (0 : Int32)), .val (.int (((fg.toUInt32 >>> ((3 : Int32) &&& 31).toUInt32).toInt32) &&& (3 : Int32))), .val (.ref x4), .unset, .unset] [(.ref nb5)])
            refine own_st (fun t_ k_ => XS.astore X11.here hx rfl (hb hby at_88) rfl rfl (l' := #[.val (.int fg), .val (.int c0), .val (.int c1), .val (.int c2), .val (.int bz), .val (.int (0 : Int32)), .val (.int (0 : Int32)), .val (.int (((fg.toUInt32 >>> ((3 : Int32) &&& 31).toUInt32).toInt32) &&& (3 : Int32))), .val (.ref x4), .val (.ref nb5), .unset]) rfl k_) ?_
            show own_Go p e below _ T11 (mkF m 90 #[.val (.int fg), .val (.int c0), .val (.int c1), .val (.int c2), .val (.int bz), .val (.int (0 : Int32)), .val (.int (0 : Int32)), .val (.int (((fg.toUInt32 >>> ((3 : Int32) &&& 31).toUInt32).toInt32) &&& (3 : Int32))), .val (.ref x4), .val (.ref nb5), .unset] [])
            refine own_st (fun t_ k_ => XS.aload X11.here hx rfl (hb hby at_90) rfl rfl k_) ?_
            show own_Go p e below _ T11 (mkF m 92 #[.val (.int fg), .val (.int c0), .val (.int c1), .val (.int c2), .val (.int bz), .val (.int (0 : Int32)), .val (.int (0 : Int32)), .val (.int (((fg.toUInt32 >>> ((3 : Int32) &&& 31).toUInt32).toInt32) &&& (3 : Int32))), .val (.ref x4), .val (.ref nb5), .unset] [(.ref nb5)])
            refine own_st (fun t_ k_ => XS.aload X11.here hx rfl (hb hby at_92) rfl rfl k_) ?_
            show own_Go p e below _ T11 (mkF m 94 #[.val (.int fg), .val (.int c0), .val (.int c1), .val (.int c2), .val (.int bz), .val (.int (0 : Int32)), .val (.int (0 : Int32)), .val (.int (((fg.toUInt32 >>> ((3 : Int32) &&& 31).toUInt32).toInt32) &&& (3 : Int32))), .val (.ref x4), .val (.ref nb5), .unset] [(.ref x4), (.ref nb5)])
            obtain ⟨cq13, kq13, q13a, q13b, q13c⟩ := isOf hZ rfl Eq11
            refine own_callV X11 hx (y := (⟨"com/example/lean_pubsub/leanpubsub/auth/Users", "authenticatedName", "(Ljava/lang/String;)Ljava/lang/String;"⟩ : MethodName)) (z := (⟨"com/example/lean_pubsub/leanpubsub/auth/Users", "authenticatedName", "(Ljava/lang/String;)Ljava/lang/String;"⟩ : MethodName)) hown (mvT hZ (hw _ (List.mem_of_getElem? (i := 53) rfl))) (mvT hZ (hw _ (List.mem_of_getElem? (i := 54) rfl))) (notFace_of_selects (args := #[]) (mvT hZ (hw _ (List.mem_of_getElem? (i := 56) rfl)))) (mvT hZ (hw _ (List.mem_of_getElem? (i := 56) rfl))) (mvT hZ (hw _ (List.mem_of_getElem? (i := 55) rfl))) (by decide) (backOf (W := 0) (rmA1R l Z a0 hw [] nb5 x4 T11.heap n0 (Nat.le_trans Z0 K11.1) Fq11) hZ (hw _ (List.mem_of_getElem? (i := 57) rfl)) (hw _ (List.mem_of_getElem? (i := 28) rfl)) (by decide) (by decide)) q13a q13c (g := (mkF m 94 #[.val (.int fg), .val (.int c0), .val (.int c1), .val (.int c2), .val (.int bz), .val (.int (0 : Int32)), .val (.int (0 : Int32)), .val (.int (((fg.toUInt32 >>> ((3 : Int32) &&& 31).toUInt32).toInt32) &&& (3 : Int32))), .val (.ref x4), .val (.ref nb5), .unset] [(.ref x4), (.ref nb5)])) rfl (by rw [hml]; rfl) (argsL := [(.ref x4)]) (rest := []) (lenOf pd_7 rfl) rfl (by show 2 * 0 + _ ≤ _; exact Nat.le_of_eq rfl) (hb hby at_94) rfl rfl (by decide) (by decide) ?_
            rintro v12 T12 L12 X12 ⟨rfl, Nq12, hh12⟩
            have N12 := Fr.app N11 Nq12
            show own_Go p e below _ T12 (mkF m 97 #[.val (.int fg), .val (.int c0), .val (.int c1), .val (.int c2), .val (.int bz), .val (.int (0 : Int32)), .val (.int (0 : Int32)), .val (.int (((fg.toUInt32 >>> ((3 : Int32) &&& 31).toUInt32).toInt32) &&& (3 : Int32))), .val (.ref x4), .val (.ref nb5), .unset] [(.ref x4)])
            refine own_st (fun t_ k_ => XS.astore X12.here hx rfl (hb hby at_97) rfl rfl (l' := #[.val (.int fg), .val (.int c0), .val (.int c1), .val (.int c2), .val (.int bz), .val (.int (0 : Int32)), .val (.int (0 : Int32)), .val (.int (((fg.toUInt32 >>> ((3 : Int32) &&& 31).toUInt32).toInt32) &&& (3 : Int32))), .val (.ref x4), .val (.ref nb5), .val (.ref x4)]) rfl k_) ?_
            show own_Go p e below _ T12 (mkF m 99 #[.val (.int fg), .val (.int c0), .val (.int c1), .val (.int c2), .val (.int bz), .val (.int (0 : Int32)), .val (.int (0 : Int32)), .val (.int (((fg.toUInt32 >>> ((3 : Int32) &&& 31).toUInt32).toInt32) &&& (3 : Int32))), .val (.ref x4), .val (.ref nb5), .val (.ref x4)] [])
            refine own_st (fun t_ k_ => XS.iload X12.here hx rfl (hb hby at_99) rfl k_) ?_
            show own_Go p e below _ T12 (mkF m 101 #[.val (.int fg), .val (.int c0), .val (.int c1), .val (.int c2), .val (.int bz), .val (.int (0 : Int32)), .val (.int (0 : Int32)), .val (.int (((fg.toUInt32 >>> ((3 : Int32) &&& 31).toUInt32).toInt32) &&& (3 : Int32))), .val (.ref x4), .val (.ref nb5), .val (.ref x4)] [(.int (0 : Int32))])
            refine own_st (fun t_ k_ => XS.ifNo X12.here hx rfl (hb hby at_101) rfl (by decide) k_) ?_
            show own_Go p e below _ T12 (mkF m 104 #[.val (.int fg), .val (.int c0), .val (.int c1), .val (.int c2), .val (.int bz), .val (.int (0 : Int32)), .val (.int (0 : Int32)), .val (.int (((fg.toUInt32 >>> ((3 : Int32) &&& 31).toUInt32).toInt32) &&& (3 : Int32))), .val (.ref x4), .val (.ref nb5), .val (.ref x4)] [])
            refine own_st (fun t_ k_ => XS.aload X12.here hx rfl (hb hby at_104) rfl rfl k_) ?_
            show own_Go p e below _ T12 (mkF m 106 #[.val (.int fg), .val (.int c0), .val (.int c1), .val (.int c2), .val (.int bz), .val (.int (0 : Int32)), .val (.int (0 : Int32)), .val (.int (((fg.toUInt32 >>> ((3 : Int32) &&& 31).toUInt32).toInt32) &&& (3 : Int32))), .val (.ref x4), .val (.ref nb5), .val (.ref x4)] [(.ref x4)])
            refine own_st (fun t_ k_ => XS.ifnonnullYes X12.here hx rfl (pc0 := 106) (pc' := 120) rfl (hb hby at_106) rfl (by decide) (by decide) k_) ?_
            show own_Go p e below _ T12 (mkF m 120 #[.val (.int fg), .val (.int c0), .val (.int c1), .val (.int c2), .val (.int bz), .val (.int (0 : Int32)), .val (.int (0 : Int32)), .val (.int (((fg.toUInt32 >>> ((3 : Int32) &&& 31).toUInt32).toInt32) &&& (3 : Int32))), .val (.ref x4), .val (.ref nb5), .val (.ref x4)] [])
            refine own_st (fun t_ k_ => XS.aload X12.here hx rfl (hb hby at_120) rfl rfl k_) ?_
            show own_Go p e below _ T12 (mkF m 122 #[.val (.int fg), .val (.int c0), .val (.int c1), .val (.int c2), .val (.int bz), .val (.int (0 : Int32)), .val (.int (0 : Int32)), .val (.int (((fg.toUInt32 >>> ((3 : Int32) &&& 31).toUInt32).toInt32) &&& (3 : Int32))), .val (.ref x4), .val (.ref nb5), .val (.ref x4)] [(.ref x4)])
            refine own_st (fun t_ k_ => XS.ifnullNo X12.here hx rfl (hb hby at_122) rfl k_) ?_
            show own_Go p e below _ T12 (mkF m 125 #[.val (.int fg), .val (.int c0), .val (.int c1), .val (.int c2), .val (.int bz), .val (.int (0 : Int32)), .val (.int (0 : Int32)), .val (.int (((fg.toUInt32 >>> ((3 : Int32) &&& 31).toUInt32).toInt32) &&& (3 : Int32))), .val (.ref x4), .val (.ref nb5), .val (.ref x4)] [])
            refine own_st (fun t_ k_ => XS.aload X12.here hx rfl (hb hby at_125) rfl rfl k_) ?_
            show own_Go p e below _ T12 (mkF m 127 #[.val (.int fg), .val (.int c0), .val (.int c1), .val (.int c2), .val (.int bz), .val (.int (0 : Int32)), .val (.int (0 : Int32)), .val (.int (((fg.toUInt32 >>> ((3 : Int32) &&& 31).toUInt32).toInt32) &&& (3 : Int32))), .val (.ref x4), .val (.ref nb5), .val (.ref x4)] [(.ref x4)])
            refine own_st (fun t_ k_ => XS.aload X12.here hx rfl (hb hby at_127) rfl rfl k_) ?_
            show own_Go p e below _ T12 (mkF m 129 #[.val (.int fg), .val (.int c0), .val (.int c1), .val (.int c2), .val (.int bz), .val (.int (0 : Int32)), .val (.int (0 : Int32)), .val (.int (((fg.toUInt32 >>> ((3 : Int32) &&& 31).toUInt32).toInt32) &&& (3 : Int32))), .val (.ref x4), .val (.ref nb5), .val (.ref x4)] [(.ref x4), (.ref x4)])
            have f16 := (Exa.ext E5 Ex4)
            have f17 := (f16.keep Kq11)
            obtain ⟨cq15, kq15, q15a, q15b, q15c⟩ := isOf hZ hh12 f17
            refine own_callV X12 hx (y := (⟨"java/lang/String", "equals", "(Ljava/lang/Object;)Z"⟩ : MethodName)) (z := (⟨"java/lang/String", "equals", "(Ljava/lang/Object;)Z"⟩ : MethodName)) hown (mvT hZ (hw _ (List.mem_of_getElem? (i := 58) rfl))) (mvT hZ (hw _ (List.mem_of_getElem? (i := 59) rfl))) (notFace_of_selects (args := #[]) (mvT hZ (hw _ (List.mem_of_getElem? (i := 61) rfl)))) (mvT hZ (hw _ (List.mem_of_getElem? (i := 61) rfl))) (mvT hZ (hw _ (List.mem_of_getElem? (i := 60) rfl))) (by decide) (backOf (W := 0) (rmQ l Z a0 hw [] x4 T11.heap n0 (Nat.le_trans Z0 K11.1)) hZ (hw _ (List.mem_of_getElem? (i := 62) rfl)) (hw _ (List.mem_of_getElem? (i := 6) rfl)) (by decide) (by decide)) q15a q15c (g := (mkF m 129 #[.val (.int fg), .val (.int c0), .val (.int c1), .val (.int c2), .val (.int bz), .val (.int (0 : Int32)), .val (.int (0 : Int32)), .val (.int (((fg.toUInt32 >>> ((3 : Int32) &&& 31).toUInt32).toInt32) &&& (3 : Int32))), .val (.ref x4), .val (.ref nb5), .val (.ref x4)] [(.ref x4), (.ref x4)])) rfl (by rw [hml]; rfl) (argsL := [(.ref x4)]) (rest := []) (lenOf pd_8 rfl) rfl (by show 2 * 0 + _ ≤ _; exact Nat.le_of_eq rfl) (hb hby at_129) rfl hh12 (by decide) (by decide) ?_
            rintro v14 T14 L14 X14 ⟨rfl, Nq14, hh14⟩
            have N14 := Fr.app N12 Nq14
            show own_Go p e below _ T14 (mkF m 132 #[.val (.int fg), .val (.int c0), .val (.int c1), .val (.int c2), .val (.int bz), .val (.int (0 : Int32)), .val (.int (0 : Int32)), .val (.int (((fg.toUInt32 >>> ((3 : Int32) &&& 31).toUInt32).toInt32) &&& (3 : Int32))), .val (.ref x4), .val (.ref nb5), .val (.ref x4)] [(.int (1 : Int32))])
            refine own_st (fun t_ k_ => XS.ifNo X14.here hx rfl (hb hby at_132) rfl (by decide) k_) ?_
            show own_Go p e below _ T14 (mkF m 135 #[.val (.int fg), .val (.int c0), .val (.int c1), .val (.int c2), .val (.int bz), .val (.int (0 : Int32)), .val (.int (0 : Int32)), .val (.int (((fg.toUInt32 >>> ((3 : Int32) &&& 31).toUInt32).toInt32) &&& (3 : Int32))), .val (.ref x4), .val (.ref nb5), .val (.ref x4)] [])
            refine own_st (fun t_ k_ => XS.iconst X14.here hx rfl (hb hby at_135) k_) ?_
            show own_Go p e below _ T14 (mkF m 136 #[.val (.int fg), .val (.int c0), .val (.int c1), .val (.int c2), .val (.int bz), .val (.int (0 : Int32)), .val (.int (0 : Int32)), .val (.int (((fg.toUInt32 >>> ((3 : Int32) &&& 31).toUInt32).toInt32) &&& (3 : Int32))), .val (.ref x4), .val (.ref nb5), .val (.ref x4)] [(.int (1 : Int32))])
            refine own_st (fun t_ k_ => XS.goto X14.here hx rfl (pc0 := 136) (pc' := 140) rfl (hb hby at_136) (by decide) (by decide) k_) ?_
            show own_Go p e below _ T14 (mkF m 140 #[.val (.int fg), .val (.int c0), .val (.int c1), .val (.int c2), .val (.int bz), .val (.int (0 : Int32)), .val (.int (0 : Int32)), .val (.int (((fg.toUInt32 >>> ((3 : Int32) &&& 31).toUInt32).toInt32) &&& (3 : Int32))), .val (.ref x4), .val (.ref nb5), .val (.ref x4)] [(.int (1 : Int32))])
            refine own_retNS X14 hx hlk hZ hEL hh14 hh B11 (t := .boolean) Bd.returns (by simp) (hb hby at_140) ?_ (by decide) (by decide)
            show Q0 n0 _ T14.heap _
            rw [hh14]
            exact ⟨rfl, N14⟩
          · show own_Go p e below _ T4 (mkF m 67 #[.val (.int fg), .val (.int c0), .val (.int c1), .val (.int c2), .val (.int bz), .val (.int (0 : Int32)), .val (.int (1 : Int32)), .val (.int (((fg.toUInt32 >>> ((3 : Int32) &&& 31).toUInt32).toInt32) &&& (3 : Int32))), .val (.ref x4), .unset, .unset] [(.int (1 : Int32))])
            refine own_st (fun t_ k_ => XS.ifNo X4.here hx rfl (hb hby at_67) rfl (by decide) k_) ?_
            show own_Go p e below _ T4 (mkF m 70 #[.val (.int fg), .val (.int c0), .val (.int c1), .val (.int c2), .val (.int bz), .val (.int (0 : Int32)), .val (.int (1 : Int32)), .val (.int (((fg.toUInt32 >>> ((3 : Int32) &&& 31).toUInt32).toInt32) &&& (3 : Int32))), .val (.ref x4), .unset, .unset] [])
            have f18 := (O0.keep Kq4 all0)
            obtain ⟨T19, X19, e19, st19⟩ := getS2 X4 hx hZ hown (host := "") (Or.inl (hw _ (List.mem_of_getElem? (i := 74) rfl))) Via.refl rfl (Sta.ext f18.2 SA) (g := (mkF m 70 #[.val (.int fg), .val (.int c0), .val (.int c1), .val (.int c2), .val (.int bz), .val (.int (0 : Int32)), .val (.int (1 : Int32)), .val (.int (((fg.toUInt32 >>> ((3 : Int32) &&& 31).toUInt32).toInt32) &&& (3 : Int32))), .val (.ref x4), .unset, .unset] [])) rfl (hb hby at_70)
            refine own_st st19 ?_
            show own_Go p e below _ T19 (mkF m 73 #[.val (.int fg), .val (.int c0), .val (.int c1), .val (.int c2), .val (.int bz), .val (.int (0 : Int32)), .val (.int (1 : Int32)), .val (.int (((fg.toUInt32 >>> ((3 : Int32) &&& 31).toUInt32).toInt32) &&& (3 : Int32))), .val (.ref x4), .unset, .unset] [(.ref an)])
            refine own_st (fun t_ k_ => XS.goto X19.here hx rfl (pc0 := 73) (pc' := 88) rfl (hb hby at_73) (by decide) (by decide) k_) ?_
            show own_Go p e below _ T19 (mkF m 88 #[.val (.int fg), .val (.int c0), .val (.int c1), .val (.int c2), .val (.int bz), .val (.int (0 : Int32)), .val (.int (1 : Int32)), .val (.int (((fg.toUInt32 >>> ((3 : Int32) &&& 31).toUInt32).toInt32) &&& (3 : Int32))), .val (.ref x4), .unset, .unset] [(.ref an)])
            refine own_st (fun t_ k_ => XS.astore X19.here hx rfl (hb hby at_88) rfl rfl (l' := #[.val (.int fg), .val (.int c0), .val (.int c1), .val (.int c2), .val (.int bz), .val (.int (0 : Int32)), .val (.int (1 : Int32)), .val (.int (((fg.toUInt32 >>> ((3 : Int32) &&& 31).toUInt32).toInt32) &&& (3 : Int32))), .val (.ref x4), .val (.ref an), .unset]) rfl k_) ?_
            show own_Go p e below _ T19 (mkF m 90 #[.val (.int fg), .val (.int c0), .val (.int c1), .val (.int c2), .val (.int bz), .val (.int (0 : Int32)), .val (.int (1 : Int32)), .val (.int (((fg.toUInt32 >>> ((3 : Int32) &&& 31).toUInt32).toInt32) &&& (3 : Int32))), .val (.ref x4), .val (.ref an), .unset] [])
            refine own_st (fun t_ k_ => XS.aload X19.here hx rfl (hb hby at_90) rfl rfl k_) ?_
            show own_Go p e below _ T19 (mkF m 92 #[.val (.int fg), .val (.int c0), .val (.int c1), .val (.int c2), .val (.int bz), .val (.int (0 : Int32)), .val (.int (1 : Int32)), .val (.int (((fg.toUInt32 >>> ((3 : Int32) &&& 31).toUInt32).toInt32) &&& (3 : Int32))), .val (.ref x4), .val (.ref an), .unset] [(.ref an)])
            refine own_st (fun t_ k_ => XS.aload X19.here hx rfl (hb hby at_92) rfl rfl k_) ?_
            show own_Go p e below _ T19 (mkF m 94 #[.val (.int fg), .val (.int c0), .val (.int c1), .val (.int c2), .val (.int bz), .val (.int (0 : Int32)), .val (.int (1 : Int32)), .val (.int (((fg.toUInt32 >>> ((3 : Int32) &&& 31).toUInt32).toInt32) &&& (3 : Int32))), .val (.ref x4), .val (.ref an), .unset] [(.ref x4), (.ref an)])
            have f20 := (Fan.keep Kq4 nin0)
            have f23 := (Ean.keep Kq4)
            obtain ⟨cq22, kq22, q22a, q22b, q22c⟩ := isOf hZ e19 f23
            refine own_callV X19 hx (y := (⟨"com/example/lean_pubsub/leanpubsub/auth/Users", "authenticatedName", "(Ljava/lang/String;)Ljava/lang/String;"⟩ : MethodName)) (z := (⟨"com/example/lean_pubsub/leanpubsub/auth/Users", "authenticatedName", "(Ljava/lang/String;)Ljava/lang/String;"⟩ : MethodName)) hown (mvT hZ (hw _ (List.mem_of_getElem? (i := 53) rfl))) (mvT hZ (hw _ (List.mem_of_getElem? (i := 54) rfl))) (notFace_of_selects (args := #[]) (mvT hZ (hw _ (List.mem_of_getElem? (i := 56) rfl)))) (mvT hZ (hw _ (List.mem_of_getElem? (i := 56) rfl))) (mvT hZ (hw _ (List.mem_of_getElem? (i := 55) rfl))) (by decide) (backOf (W := 0) (rmA0R l Z a0 hw [] an x4 T4.heap n0 (Nat.le_trans Z0 K4.1) f20) hZ (hw _ (List.mem_of_getElem? (i := 57) rfl)) (hw _ (List.mem_of_getElem? (i := 28) rfl)) (by decide) (by decide)) q22a q22c (g := (mkF m 94 #[.val (.int fg), .val (.int c0), .val (.int c1), .val (.int c2), .val (.int bz), .val (.int (0 : Int32)), .val (.int (1 : Int32)), .val (.int (((fg.toUInt32 >>> ((3 : Int32) &&& 31).toUInt32).toInt32) &&& (3 : Int32))), .val (.ref x4), .val (.ref an), .unset] [(.ref x4), (.ref an)])) rfl (by rw [hml]; rfl) (argsL := [(.ref x4)]) (rest := []) (lenOf pd_7 rfl) rfl (by show 2 * 0 + _ ≤ _; exact Nat.le_of_eq rfl) (hb hby at_94) rfl e19 (by decide) (by decide) ?_
            rintro v21 T21 L21 X21 ⟨rfl, Nq21, hh21⟩
            have N21 := Fr.app N4 Nq21
            show own_Go p e below _ T21 (mkF m 97 #[.val (.int fg), .val (.int c0), .val (.int c1), .val (.int c2), .val (.int bz), .val (.int (0 : Int32)), .val (.int (1 : Int32)), .val (.int (((fg.toUInt32 >>> ((3 : Int32) &&& 31).toUInt32).toInt32) &&& (3 : Int32))), .val (.ref x4), .val (.ref an), .unset] [.null])
            refine own_st (fun t_ k_ => XS.astore X21.here hx rfl (hb hby at_97) rfl rfl (l' := #[.val (.int fg), .val (.int c0), .val (.int c1), .val (.int c2), .val (.int bz), .val (.int (0 : Int32)), .val (.int (1 : Int32)), .val (.int (((fg.toUInt32 >>> ((3 : Int32) &&& 31).toUInt32).toInt32) &&& (3 : Int32))), .val (.ref x4), .val (.ref an), .val .null]) rfl k_) ?_
            show own_Go p e below _ T21 (mkF m 99 #[.val (.int fg), .val (.int c0), .val (.int c1), .val (.int c2), .val (.int bz), .val (.int (0 : Int32)), .val (.int (1 : Int32)), .val (.int (((fg.toUInt32 >>> ((3 : Int32) &&& 31).toUInt32).toInt32) &&& (3 : Int32))), .val (.ref x4), .val (.ref an), .val .null] [])
            refine own_st (fun t_ k_ => XS.iload X21.here hx rfl (hb hby at_99) rfl k_) ?_
            show own_Go p e below _ T21 (mkF m 101 #[.val (.int fg), .val (.int c0), .val (.int c1), .val (.int c2), .val (.int bz), .val (.int (0 : Int32)), .val (.int (1 : Int32)), .val (.int (((fg.toUInt32 >>> ((3 : Int32) &&& 31).toUInt32).toInt32) &&& (3 : Int32))), .val (.ref x4), .val (.ref an), .val .null] [(.int (1 : Int32))])
            refine own_st (fun t_ k_ => XS.ifYes X21.here hx rfl (pc0 := 101) (pc' := 109) rfl (hb hby at_101) rfl (by decide) (by decide) (by decide) k_) ?_
            show own_Go p e below _ T21 (mkF m 109 #[.val (.int fg), .val (.int c0), .val (.int c1), .val (.int c2), .val (.int bz), .val (.int (0 : Int32)), .val (.int (1 : Int32)), .val (.int (((fg.toUInt32 >>> ((3 : Int32) &&& 31).toUInt32).toInt32) &&& (3 : Int32))), .val (.ref x4), .val (.ref an), .val .null] [])
            refine own_st (fun t_ k_ => XS.aload X21.here hx rfl (hb hby at_109) rfl rfl k_) ?_
            show own_Go p e below _ T21 (mkF m 111 #[.val (.int fg), .val (.int c0), .val (.int c1), .val (.int c2), .val (.int bz), .val (.int (0 : Int32)), .val (.int (1 : Int32)), .val (.int (((fg.toUInt32 >>> ((3 : Int32) &&& 31).toUInt32).toInt32) &&& (3 : Int32))), .val (.ref x4), .val (.ref an), .val .null] [.null])
            refine own_st (fun t_ k_ => XS.ifnonnullNo X21.here hx rfl (hb hby at_111) rfl k_) ?_
            show own_Go p e below _ T21 (mkF m 114 #[.val (.int fg), .val (.int c0), .val (.int c1), .val (.int c2), .val (.int bz), .val (.int (0 : Int32)), .val (.int (1 : Int32)), .val (.int (((fg.toUInt32 >>> ((3 : Int32) &&& 31).toUInt32).toInt32) &&& (3 : Int32))), .val (.ref x4), .val (.ref an), .val .null] [])
            refine own_st (fun t_ k_ => XS.iconst X21.here hx rfl (hb hby at_114) k_) ?_
            show own_Go p e below _ T21 (mkF m 115 #[.val (.int fg), .val (.int c0), .val (.int c1), .val (.int c2), .val (.int bz), .val (.int (0 : Int32)), .val (.int (1 : Int32)), .val (.int (((fg.toUInt32 >>> ((3 : Int32) &&& 31).toUInt32).toInt32) &&& (3 : Int32))), .val (.ref x4), .val (.ref an), .val .null] [(.int (1 : Int32))])
            refine own_st (fun t_ k_ => XS.goto X21.here hx rfl (pc0 := 115) (pc' := 119) rfl (hb hby at_115) (by decide) (by decide) k_) ?_
            show own_Go p e below _ T21 (mkF m 119 #[.val (.int fg), .val (.int c0), .val (.int c1), .val (.int c2), .val (.int bz), .val (.int (0 : Int32)), .val (.int (1 : Int32)), .val (.int (((fg.toUInt32 >>> ((3 : Int32) &&& 31).toUInt32).toInt32) &&& (3 : Int32))), .val (.ref x4), .val (.ref an), .val .null] [(.int (1 : Int32))])
            refine own_retNS X21 hx hlk hZ hEL hh21 hh B4 (t := .boolean) Bd.returns (by simp) (hb hby at_119) ?_ (by decide) (by decide)
            show Q0 n0 _ T21.heap _
            rw [hh21]
            exact ⟨rfl, N21⟩
        · show own_Go p e below _ s₁ (mkF m 48 #[.val (.int fg), .val (.int c0), .val (.int c1), .val (.int c2), .val (.int bz), .val (.int (1 : Int32)), .val (.int b6), .val (.int (((fg.toUInt32 >>> ((3 : Int32) &&& 31).toUInt32).toInt32) &&& (3 : Int32))), .unset, .unset, .unset] [(.int (1 : Int32))])
          refine own_st (fun t_ k_ => XS.ifNo X0.here hx rfl (hb hby at_48) rfl (by decide) k_) ?_
          show own_Go p e below _ s₁ (mkF m 51 #[.val (.int fg), .val (.int c0), .val (.int c1), .val (.int c2), .val (.int bz), .val (.int (1 : Int32)), .val (.int b6), .val (.int (((fg.toUInt32 >>> ((3 : Int32) &&& 31).toUInt32).toInt32) &&& (3 : Int32))), .unset, .unset, .unset] [])
          refine own_st (fun t_ k_ => XS.aconstNull X0.here hx rfl (hb hby at_51) k_) ?_
          show own_Go p e below _ s₁ (mkF m 52 #[.val (.int fg), .val (.int c0), .val (.int c1), .val (.int c2), .val (.int bz), .val (.int (1 : Int32)), .val (.int b6), .val (.int (((fg.toUInt32 >>> ((3 : Int32) &&& 31).toUInt32).toInt32) &&& (3 : Int32))), .unset, .unset, .unset] [.null])
          refine own_st (fun t_ k_ => XS.goto X0.here hx rfl (pc0 := 52) (pc' := 63) rfl (hb hby at_52) (by decide) (by decide) k_) ?_
          show own_Go p e below _ s₁ (mkF m 63 #[.val (.int fg), .val (.int c0), .val (.int c1), .val (.int c2), .val (.int bz), .val (.int (1 : Int32)), .val (.int b6), .val (.int (((fg.toUInt32 >>> ((3 : Int32) &&& 31).toUInt32).toInt32) &&& (3 : Int32))), .unset, .unset, .unset] [.null])
          refine own_st (fun t_ k_ => XS.astore X0.here hx rfl (hb hby at_63) rfl rfl (l' := #[.val (.int fg), .val (.int c0), .val (.int c1), .val (.int c2), .val (.int bz), .val (.int (1 : Int32)), .val (.int b6), .val (.int (((fg.toUInt32 >>> ((3 : Int32) &&& 31).toUInt32).toInt32) &&& (3 : Int32))), .val .null, .unset, .unset]) rfl k_) ?_
          show own_Go p e below _ s₁ (mkF m 65 #[.val (.int fg), .val (.int c0), .val (.int c1), .val (.int c2), .val (.int bz), .val (.int (1 : Int32)), .val (.int b6), .val (.int (((fg.toUInt32 >>> ((3 : Int32) &&& 31).toUInt32).toInt32) &&& (3 : Int32))), .val .null, .unset, .unset] [])
          refine own_st (fun t_ k_ => XS.iload X0.here hx rfl (hb hby at_65) rfl k_) ?_
          show own_Go p e below _ s₁ (mkF m 67 #[.val (.int fg), .val (.int c0), .val (.int c1), .val (.int c2), .val (.int bz), .val (.int (1 : Int32)), .val (.int b6), .val (.int (((fg.toUInt32 >>> ((3 : Int32) &&& 31).toUInt32).toInt32) &&& (3 : Int32))), .val .null, .unset, .unset] [(.int b6)])
          rcases (h_b6 : b6 = (0 : Int32) ∨ b6 = (1 : Int32)) with rfl | rfl
          · show own_Go p e below _ s₁ (mkF m 67 #[.val (.int fg), .val (.int c0), .val (.int c1), .val (.int c2), .val (.int bz), .val (.int (1 : Int32)), .val (.int (0 : Int32)), .val (.int (((fg.toUInt32 >>> ((3 : Int32) &&& 31).toUInt32).toInt32) &&& (3 : Int32))), .val .null, .unset, .unset] [(.int (0 : Int32))])
            refine own_st (fun t_ k_ => XS.ifYes X0.here hx rfl (pc0 := 67) (pc' := 76) rfl (hb hby at_67) rfl (by decide) (by decide) (by decide) k_) ?_
            show own_Go p e below _ s₁ (mkF m 76 #[.val (.int fg), .val (.int c0), .val (.int c1), .val (.int c2), .val (.int bz), .val (.int (1 : Int32)), .val (.int (0 : Int32)), .val (.int (((fg.toUInt32 >>> ((3 : Int32) &&& 31).toUInt32).toInt32) &&& (3 : Int32))), .val .null, .unset, .unset] [])
            obtain ⟨T24, h24, X24, e24, E24, A24, D24, cel24, st24⟩ := newO X0 hx hZ hown (hw _ (List.mem_of_getElem? (i := 26) rfl)) (hw _ (List.mem_of_getElem? (i := 27) rfl)) (hw _ (List.mem_of_getElem? (i := 28) rfl)) e0 (g := (mkF m 76 #[.val (.int fg), .val (.int c0), .val (.int c1), .val (.int c2), .val (.int bz), .val (.int (1 : Int32)), .val (.int (0 : Int32)), .val (.int (((fg.toUInt32 >>> ((3 : Int32) &&& 31).toUInt32).toInt32) &&& (3 : Int32))), .val .null, .unset, .unset] [])) rfl (hb hby at_76) (by decide) (by decide)
            obtain ⟨nb24, g24⟩ : ∃ z, z = h0.size := ⟨_, rfl⟩
            rw [← g24] at A24 D24 cel24 st24
            refine own_st st24 ?_
            have g_nb24 : n0 ≤ nb24 := Nat.le_trans (Nat.le_trans Z0 (Keep.refl h0 []).1) (Nat.le_of_eq g24.symm)
            have K24 : Keep h0 h24 [] := (Keep.refl h0 []).ext E24
            have sz_nb24 : h0.size ≤ nb24 := Nat.le_trans (Keep.refl h0 []).1 (Nat.le_of_eq g24.symm)
            have B24 := own_Bk.ext E24 B0
            have Sf24 := Safe.ext E24 (own_Bk.ch B0) (Safe.new (Nat.le_of_eq g24.symm))
            have F24_passwords : Fld Z h24 nb24 "com/example/lean_pubsub/leanpubsub/auth/Users" "passwords" "Ljava/util/Map;" .null := D24 (Or.inr (hw _ (List.mem_of_getElem? (i := 48) rfl))) (ty := (.object "java/util/Map")) (by decide)
            have F24_anonymousAllowed : Fld Z h24 nb24 "com/example/lean_pubsub/leanpubsub/auth/Users" "anonymousAllowed" "Z" (.int (0 : Int32)) := D24 (Or.inr (hw _ (List.mem_of_getElem? (i := 50) rfl))) (ty := .boolean) (by decide)
            have F24_namesChecked : Fld Z h24 nb24 "com/example/lean_pubsub/leanpubsub/auth/Users" "namesChecked" "Z" (.int (0 : Int32)) := D24 (Or.inr (hw _ (List.mem_of_getElem? (i := 52) rfl))) (ty := .boolean) (by decide)
            show own_Go p e below _ T24 (mkF m 79 #[.val (.int fg), .val (.int c0), .val (.int c1), .val (.int c2), .val (.int bz), .val (.int (1 : Int32)), .val (.int (0 : Int32)), .val (.int (((fg.toUInt32 >>> ((3 : Int32) &&& 31).toUInt32).toInt32) &&& (3 : Int32))), .val .null, .unset, .unset] [(.ref nb24)])
            refine own_st (fun t_ k_ => XS.dup X24.here hx rfl (hb hby at_79) rfl rfl k_) ?_
            show own_Go p e below _ T24 (mkF m 80 #[.val (.int fg), .val (.int c0), .val (.int c1), .val (.int c2), .val (.int bz), .val (.int (1 : Int32)), .val (.int (0 : Int32)), .val (.int (((fg.toUInt32 >>> ((3 : Int32) &&& 31).toUInt32).toInt32) &&& (3 : Int32))), .val .null, .unset, .unset] [(.ref nb24), (.ref nb24)])
            have f25 := (O0.ext E24)
            refine own_callS X24 hx (y := (⟨"java/util/Map", "of", "()Ljava/util/Map;"⟩ : MethodName)) hown (mvT hZ (hw _ (List.mem_of_getElem? (i := 29) rfl))) (mvT hZ (hw _ (List.mem_of_getElem? (i := 30) rfl))) (mvT hZ (hw _ (List.mem_of_getElem? (i := 31) rfl))) (mvT hZ (hw _ (List.mem_of_getElem? (i := 32) rfl))) (by decide) (backOf (W := 2) (rmO l Z a0 hw [] em h24 n0 (Nat.le_trans Z0 K24.1) (Sta.ext f25.2 SM)) hZ (hw _ (List.mem_of_getElem? (i := 32) rfl)) (hw _ (List.mem_of_getElem? (i := 31) rfl)) (by decide) (by decide)) (g := (mkF m 80 #[.val (.int fg), .val (.int c0), .val (.int c1), .val (.int c2), .val (.int bz), .val (.int (1 : Int32)), .val (.int (0 : Int32)), .val (.int (((fg.toUInt32 >>> ((3 : Int32) &&& 31).toUInt32).toInt32) &&& (3 : Int32))), .val .null, .unset, .unset] [(.ref nb24), (.ref nb24)])) rfl (by rw [hml]; rfl) (argsL := []) (rest := [(.ref nb24), (.ref nb24)]) (lenOf pd_5 rfl) rfl (by show 2 * 0 + _ ≤ _; exact Nat.le_of_eq rfl) (hb hby at_80) rfl e24 (by decide) (by decide) ?_
            rintro v26 T26 L26 X26 ⟨rfl, Nq26, hh26⟩
            have N26 := Fr.app N0 Nq26
            show own_Go p e below _ T26 (mkF m 83 #[.val (.int fg), .val (.int c0), .val (.int c1), .val (.int c2), .val (.int bz), .val (.int (1 : Int32)), .val (.int (0 : Int32)), .val (.int (((fg.toUInt32 >>> ((3 : Int32) &&& 31).toUInt32).toInt32) &&& (3 : Int32))), .val .null, .unset, .unset] [(.ref em), (.ref nb24), (.ref nb24)])
            refine own_st (fun t_ k_ => XS.iload X26.here hx rfl (hb hby at_83) rfl k_) ?_
            show own_Go p e below _ T26 (mkF m 85 #[.val (.int fg), .val (.int c0), .val (.int c1), .val (.int c2), .val (.int bz), .val (.int (1 : Int32)), .val (.int (0 : Int32)), .val (.int (((fg.toUInt32 >>> ((3 : Int32) &&& 31).toUInt32).toInt32) &&& (3 : Int32))), .val .null, .unset, .unset] [(.int bz), (.ref em), (.ref nb24), (.ref nb24)])
            have f27 := (Exa.ext E24 Em)
            refine own_callN X26 hx (y := (⟨"com/example/lean_pubsub/leanpubsub/auth/Users", "<init>", "(Ljava/util/Map;Z)V"⟩ : MethodName)) rfl hown (mvT hZ (hw _ (List.mem_of_getElem? (i := 35) rfl))) (mvT hZ (hw _ (List.mem_of_getElem? (i := 36) rfl))) (mvT hZ (hw _ (List.mem_of_getElem? (i := 37) rfl))) (by decide) (backOf (W := 1) (rmU1 l Z a0 hw [] nb24 em bz h24 n0 (Nat.le_trans Z0 K24.1) g_nb24 A24 F24_passwords F24_anonymousAllowed F24_namesChecked h_bz f27) hZ (hw _ (List.mem_of_getElem? (i := 37) rfl)) (hw _ (List.mem_of_getElem? (i := 28) rfl)) (by decide) (by decide)) (a := nb24) (g := (mkF m 85 #[.val (.int fg), .val (.int c0), .val (.int c1), .val (.int c2), .val (.int bz), .val (.int (1 : Int32)), .val (.int (0 : Int32)), .val (.int (((fg.toUInt32 >>> ((3 : Int32) &&& 31).toUInt32).toInt32) &&& (3 : Int32))), .val .null, .unset, .unset] [(.int bz), (.ref em), (.ref nb24), (.ref nb24)])) rfl (by rw [hml]; rfl) (argsL := [(.ref em), (.int bz)]) (rest := [(.ref nb24)]) (lenOf pd_6 rfl) rfl (by show 2 * 0 + _ ≤ _; exact Nat.le_of_eq rfl) (hb hby at_85) rfl hh26 (by decide) (by decide) ?_
            rintro v28 T28 L28 X28 ⟨rfl, Nq28, Kq28, Eq28, Fq28⟩
            have N28 := Fr.app N26 Nq28
            have K28 : Keep h0 T28.heap [] := K24.trans Kq28 (allS (Or.inr sz_nb24) all0)
            have Sk28 : ∀ x ∈ [nb24], _ := (sfS Sf24 sf0)
            have B28 := own_Bk.keep Kq28 Sk28 B24
            show own_Go p e below _ T28 (mkF m 88 #[.val (.int fg), .val (.int c0), .val (.int c1), .val (.int c2), .val (.int bz), .val (.int (1 : Int32)), .val (.int (0 : Int32)), .val (.int (((fg.toUInt32 >>> ((3 : Int32) &&& 31).toUInt32).toInt32) &&& (3 : Int32))), .val .null, .unset, .unset] [(.ref nb24)])
            refine own_st (fun t_ k_ => XS.astore X28.here hx rfl (hb hby at_88) rfl rfl (l' := #[.val (.int fg), .val (.int c0), .val (.int c1), .val (.int c2), .val (.int bz), .val (.int (1 : Int32)), .val (.int (0 : Int32)), .val (.int (((fg.toUInt32 >>> ((3 : Int32) &&& 31).toUInt32).toInt32) &&& (3 : Int32))), .val .null, .val (.ref nb24), .unset]) rfl k_) ?_
            show own_Go p e below _ T28 (mkF m 90 #[.val (.int fg), .val (.int c0), .val (.int c1), .val (.int c2), .val (.int bz), .val (.int (1 : Int32)), .val (.int (0 : Int32)), .val (.int (((fg.toUInt32 >>> ((3 : Int32) &&& 31).toUInt32).toInt32) &&& (3 : Int32))), .val .null, .val (.ref nb24), .unset] [])
            refine own_st (fun t_ k_ => XS.aload X28.here hx rfl (hb hby at_90) rfl rfl k_) ?_
            show own_Go p e below _ T28 (mkF m 92 #[.val (.int fg), .val (.int c0), .val (.int c1), .val (.int c2), .val (.int bz), .val (.int (1 : Int32)), .val (.int (0 : Int32)), .val (.int (((fg.toUInt32 >>> ((3 : Int32) &&& 31).toUInt32).toInt32) &&& (3 : Int32))), .val .null, .val (.ref nb24), .unset] [(.ref nb24)])
            refine own_st (fun t_ k_ => XS.aload X28.here hx rfl (hb hby at_92) rfl rfl k_) ?_
            show own_Go p e below _ T28 (mkF m 94 #[.val (.int fg), .val (.int c0), .val (.int c1), .val (.int c2), .val (.int bz), .val (.int (1 : Int32)), .val (.int (0 : Int32)), .val (.int (((fg.toUInt32 >>> ((3 : Int32) &&& 31).toUInt32).toInt32) &&& (3 : Int32))), .val .null, .val (.ref nb24), .unset] [.null, (.ref nb24)])
            obtain ⟨cq30, kq30, q30a, q30b, q30c⟩ := isOf hZ rfl Eq28
            refine own_callV X28 hx (y := (⟨"com/example/lean_pubsub/leanpubsub/auth/Users", "authenticatedName", "(Ljava/lang/String;)Ljava/lang/String;"⟩ : MethodName)) (z := (⟨"com/example/lean_pubsub/leanpubsub/auth/Users", "authenticatedName", "(Ljava/lang/String;)Ljava/lang/String;"⟩ : MethodName)) hown (mvT hZ (hw _ (List.mem_of_getElem? (i := 53) rfl))) (mvT hZ (hw _ (List.mem_of_getElem? (i := 54) rfl))) (notFace_of_selects (args := #[]) (mvT hZ (hw _ (List.mem_of_getElem? (i := 56) rfl)))) (mvT hZ (hw _ (List.mem_of_getElem? (i := 56) rfl))) (mvT hZ (hw _ (List.mem_of_getElem? (i := 55) rfl))) (by decide) (backOf (W := 0) (rmA1N l Z a0 hw [] nb24 T28.heap n0 (Nat.le_trans Z0 K28.1) Fq28) hZ (hw _ (List.mem_of_getElem? (i := 57) rfl)) (hw _ (List.mem_of_getElem? (i := 28) rfl)) (by decide) (by decide)) q30a q30c (g := (mkF m 94 #[.val (.int fg), .val (.int c0), .val (.int c1), .val (.int c2), .val (.int bz), .val (.int (1 : Int32)), .val (.int (0 : Int32)), .val (.int (((fg.toUInt32 >>> ((3 : Int32) &&& 31).toUInt32).toInt32) &&& (3 : Int32))), .val .null, .val (.ref nb24), .unset] [.null, (.ref nb24)])) rfl (by rw [hml]; rfl) (argsL := [.null]) (rest := []) (lenOf pd_7 rfl) rfl (by show 2 * 0 + _ ≤ _; exact Nat.le_of_eq rfl) (hb hby at_94) rfl rfl (by decide) (by decide) ?_
            rintro v29 T29 L29 X29 ⟨rfl, Nq29, hh29⟩
            have N29 := Fr.app N28 Nq29
            show own_Go p e below _ T29 (mkF m 97 #[.val (.int fg), .val (.int c0), .val (.int c1), .val (.int c2), .val (.int bz), .val (.int (1 : Int32)), .val (.int (0 : Int32)), .val (.int (((fg.toUInt32 >>> ((3 : Int32) &&& 31).toUInt32).toInt32) &&& (3 : Int32))), .val .null, .val (.ref nb24), .unset] [.null])
            refine own_st (fun t_ k_ => XS.astore X29.here hx rfl (hb hby at_97) rfl rfl (l' := #[.val (.int fg), .val (.int c0), .val (.int c1), .val (.int c2), .val (.int bz), .val (.int (1 : Int32)), .val (.int (0 : Int32)), .val (.int (((fg.toUInt32 >>> ((3 : Int32) &&& 31).toUInt32).toInt32) &&& (3 : Int32))), .val .null, .val (.ref nb24), .val .null]) rfl k_) ?_
            show own_Go p e below _ T29 (mkF m 99 #[.val (.int fg), .val (.int c0), .val (.int c1), .val (.int c2), .val (.int bz), .val (.int (1 : Int32)), .val (.int (0 : Int32)), .val (.int (((fg.toUInt32 >>> ((3 : Int32) &&& 31).toUInt32).toInt32) &&& (3 : Int32))), .val .null, .val (.ref nb24), .val .null] [])
            refine own_st (fun t_ k_ => XS.iload X29.here hx rfl (hb hby at_99) rfl k_) ?_
            show own_Go p e below _ T29 (mkF m 101 #[.val (.int fg), .val (.int c0), .val (.int c1), .val (.int c2), .val (.int bz), .val (.int (1 : Int32)), .val (.int (0 : Int32)), .val (.int (((fg.toUInt32 >>> ((3 : Int32) &&& 31).toUInt32).toInt32) &&& (3 : Int32))), .val .null, .val (.ref nb24), .val .null] [(.int (0 : Int32))])
            refine own_st (fun t_ k_ => XS.ifNo X29.here hx rfl (hb hby at_101) rfl (by decide) k_) ?_
            show own_Go p e below _ T29 (mkF m 104 #[.val (.int fg), .val (.int c0), .val (.int c1), .val (.int c2), .val (.int bz), .val (.int (1 : Int32)), .val (.int (0 : Int32)), .val (.int (((fg.toUInt32 >>> ((3 : Int32) &&& 31).toUInt32).toInt32) &&& (3 : Int32))), .val .null, .val (.ref nb24), .val .null] [])
            refine own_st (fun t_ k_ => XS.aload X29.here hx rfl (hb hby at_104) rfl rfl k_) ?_
            show own_Go p e below _ T29 (mkF m 106 #[.val (.int fg), .val (.int c0), .val (.int c1), .val (.int c2), .val (.int bz), .val (.int (1 : Int32)), .val (.int (0 : Int32)), .val (.int (((fg.toUInt32 >>> ((3 : Int32) &&& 31).toUInt32).toInt32) &&& (3 : Int32))), .val .null, .val (.ref nb24), .val .null] [.null])
            refine own_st (fun t_ k_ => XS.ifnonnullNo X29.here hx rfl (hb hby at_106) rfl k_) ?_
            show own_Go p e below _ T29 (mkF m 109 #[.val (.int fg), .val (.int c0), .val (.int c1), .val (.int c2), .val (.int bz), .val (.int (1 : Int32)), .val (.int (0 : Int32)), .val (.int (((fg.toUInt32 >>> ((3 : Int32) &&& 31).toUInt32).toInt32) &&& (3 : Int32))), .val .null, .val (.ref nb24), .val .null] [])
            refine own_st (fun t_ k_ => XS.aload X29.here hx rfl (hb hby at_109) rfl rfl k_) ?_
            show own_Go p e below _ T29 (mkF m 111 #[.val (.int fg), .val (.int c0), .val (.int c1), .val (.int c2), .val (.int bz), .val (.int (1 : Int32)), .val (.int (0 : Int32)), .val (.int (((fg.toUInt32 >>> ((3 : Int32) &&& 31).toUInt32).toInt32) &&& (3 : Int32))), .val .null, .val (.ref nb24), .val .null] [.null])
            refine own_st (fun t_ k_ => XS.ifnonnullNo X29.here hx rfl (hb hby at_111) rfl k_) ?_
            show own_Go p e below _ T29 (mkF m 114 #[.val (.int fg), .val (.int c0), .val (.int c1), .val (.int c2), .val (.int bz), .val (.int (1 : Int32)), .val (.int (0 : Int32)), .val (.int (((fg.toUInt32 >>> ((3 : Int32) &&& 31).toUInt32).toInt32) &&& (3 : Int32))), .val .null, .val (.ref nb24), .val .null] [])
            refine own_st (fun t_ k_ => XS.iconst X29.here hx rfl (hb hby at_114) k_) ?_
            show own_Go p e below _ T29 (mkF m 115 #[.val (.int fg), .val (.int c0), .val (.int c1), .val (.int c2), .val (.int bz), .val (.int (1 : Int32)), .val (.int (0 : Int32)), .val (.int (((fg.toUInt32 >>> ((3 : Int32) &&& 31).toUInt32).toInt32) &&& (3 : Int32))), .val .null, .val (.ref nb24), .val .null] [(.int (1 : Int32))])
            refine own_st (fun t_ k_ => XS.goto X29.here hx rfl (pc0 := 115) (pc' := 119) rfl (hb hby at_115) (by decide) (by decide) k_) ?_
            show own_Go p e below _ T29 (mkF m 119 #[.val (.int fg), .val (.int c0), .val (.int c1), .val (.int c2), .val (.int bz), .val (.int (1 : Int32)), .val (.int (0 : Int32)), .val (.int (((fg.toUInt32 >>> ((3 : Int32) &&& 31).toUInt32).toInt32) &&& (3 : Int32))), .val .null, .val (.ref nb24), .val .null] [(.int (1 : Int32))])
            refine own_retNS X29 hx hlk hZ hEL hh29 hh B28 (t := .boolean) Bd.returns (by simp) (hb hby at_119) ?_ (by decide) (by decide)
            show Q0 n0 _ T29.heap _
            rw [hh29]
            exact ⟨rfl, N29⟩
          · show own_Go p e below _ s₁ (mkF m 67 #[.val (.int fg), .val (.int c0), .val (.int c1), .val (.int c2), .val (.int bz), .val (.int (1 : Int32)), .val (.int (1 : Int32)), .val (.int (((fg.toUInt32 >>> ((3 : Int32) &&& 31).toUInt32).toInt32) &&& (3 : Int32))), .val .null, .unset, .unset] [(.int (1 : Int32))])
            refine own_st (fun t_ k_ => XS.ifNo X0.here hx rfl (hb hby at_67) rfl (by decide) k_) ?_
            show own_Go p e below _ s₁ (mkF m 70 #[.val (.int fg), .val (.int c0), .val (.int c1), .val (.int c2), .val (.int bz), .val (.int (1 : Int32)), .val (.int (1 : Int32)), .val (.int (((fg.toUInt32 >>> ((3 : Int32) &&& 31).toUInt32).toInt32) &&& (3 : Int32))), .val .null, .unset, .unset] [])
            obtain ⟨T31, X31, e31, st31⟩ := getS2 X0 hx hZ hown (host := "") (Or.inl (hw _ (List.mem_of_getElem? (i := 74) rfl))) Via.refl e0 (Sta.ext O0.2 SA) (g := (mkF m 70 #[.val (.int fg), .val (.int c0), .val (.int c1), .val (.int c2), .val (.int bz), .val (.int (1 : Int32)), .val (.int (1 : Int32)), .val (.int (((fg.toUInt32 >>> ((3 : Int32) &&& 31).toUInt32).toInt32) &&& (3 : Int32))), .val .null, .unset, .unset] [])) rfl (hb hby at_70)
            refine own_st st31 ?_
            show own_Go p e below _ T31 (mkF m 73 #[.val (.int fg), .val (.int c0), .val (.int c1), .val (.int c2), .val (.int bz), .val (.int (1 : Int32)), .val (.int (1 : Int32)), .val (.int (((fg.toUInt32 >>> ((3 : Int32) &&& 31).toUInt32).toInt32) &&& (3 : Int32))), .val .null, .unset, .unset] [(.ref an)])
            refine own_st (fun t_ k_ => XS.goto X31.here hx rfl (pc0 := 73) (pc' := 88) rfl (hb hby at_73) (by decide) (by decide) k_) ?_
            show own_Go p e below _ T31 (mkF m 88 #[.val (.int fg), .val (.int c0), .val (.int c1), .val (.int c2), .val (.int bz), .val (.int (1 : Int32)), .val (.int (1 : Int32)), .val (.int (((fg.toUInt32 >>> ((3 : Int32) &&& 31).toUInt32).toInt32) &&& (3 : Int32))), .val .null, .unset, .unset] [(.ref an)])
            refine own_st (fun t_ k_ => XS.astore X31.here hx rfl (hb hby at_88) rfl rfl (l' := #[.val (.int fg), .val (.int c0), .val (.int c1), .val (.int c2), .val (.int bz), .val (.int (1 : Int32)), .val (.int (1 : Int32)), .val (.int (((fg.toUInt32 >>> ((3 : Int32) &&& 31).toUInt32).toInt32) &&& (3 : Int32))), .val .null, .val (.ref an), .unset]) rfl k_) ?_
            show own_Go p e below _ T31 (mkF m 90 #[.val (.int fg), .val (.int c0), .val (.int c1), .val (.int c2), .val (.int bz), .val (.int (1 : Int32)), .val (.int (1 : Int32)), .val (.int (((fg.toUInt32 >>> ((3 : Int32) &&& 31).toUInt32).toInt32) &&& (3 : Int32))), .val .null, .val (.ref an), .unset] [])
            refine own_st (fun t_ k_ => XS.aload X31.here hx rfl (hb hby at_90) rfl rfl k_) ?_
            show own_Go p e below _ T31 (mkF m 92 #[.val (.int fg), .val (.int c0), .val (.int c1), .val (.int c2), .val (.int bz), .val (.int (1 : Int32)), .val (.int (1 : Int32)), .val (.int (((fg.toUInt32 >>> ((3 : Int32) &&& 31).toUInt32).toInt32) &&& (3 : Int32))), .val .null, .val (.ref an), .unset] [(.ref an)])
            refine own_st (fun t_ k_ => XS.aload X31.here hx rfl (hb hby at_92) rfl rfl k_) ?_
            show own_Go p e below _ T31 (mkF m 94 #[.val (.int fg), .val (.int c0), .val (.int c1), .val (.int c2), .val (.int bz), .val (.int (1 : Int32)), .val (.int (1 : Int32)), .val (.int (((fg.toUInt32 >>> ((3 : Int32) &&& 31).toUInt32).toInt32) &&& (3 : Int32))), .val .null, .val (.ref an), .unset] [.null, (.ref an)])
            obtain ⟨cq33, kq33, q33a, q33b, q33c⟩ := isOf hZ e31 Ean
            refine own_callV X31 hx (y := (⟨"com/example/lean_pubsub/leanpubsub/auth/Users", "authenticatedName", "(Ljava/lang/String;)Ljava/lang/String;"⟩ : MethodName)) (z := (⟨"com/example/lean_pubsub/leanpubsub/auth/Users", "authenticatedName", "(Ljava/lang/String;)Ljava/lang/String;"⟩ : MethodName)) hown (mvT hZ (hw _ (List.mem_of_getElem? (i := 53) rfl))) (mvT hZ (hw _ (List.mem_of_getElem? (i := 54) rfl))) (notFace_of_selects (args := #[]) (mvT hZ (hw _ (List.mem_of_getElem? (i := 56) rfl)))) (mvT hZ (hw _ (List.mem_of_getElem? (i := 56) rfl))) (mvT hZ (hw _ (List.mem_of_getElem? (i := 55) rfl))) (by decide) (backOf (W := 0) (rmA0N l Z a0 hw [] an h0 n0 (Nat.le_trans Z0 (Keep.refl h0 []).1) Fan) hZ (hw _ (List.mem_of_getElem? (i := 57) rfl)) (hw _ (List.mem_of_getElem? (i := 28) rfl)) (by decide) (by decide)) q33a q33c (g := (mkF m 94 #[.val (.int fg), .val (.int c0), .val (.int c1), .val (.int c2), .val (.int bz), .val (.int (1 : Int32)), .val (.int (1 : Int32)), .val (.int (((fg.toUInt32 >>> ((3 : Int32) &&& 31).toUInt32).toInt32) &&& (3 : Int32))), .val .null, .val (.ref an), .unset] [.null, (.ref an)])) rfl (by rw [hml]; rfl) (argsL := [.null]) (rest := []) (lenOf pd_7 rfl) rfl (by show 2 * 0 + _ ≤ _; exact Nat.le_of_eq rfl) (hb hby at_94) rfl e31 (by decide) (by decide) ?_
            rintro v32 T32 L32 X32 ⟨rfl, Nq32, hh32⟩
            have N32 := Fr.app N0 Nq32
            show own_Go p e below _ T32 (mkF m 97 #[.val (.int fg), .val (.int c0), .val (.int c1), .val (.int c2), .val (.int bz), .val (.int (1 : Int32)), .val (.int (1 : Int32)), .val (.int (((fg.toUInt32 >>> ((3 : Int32) &&& 31).toUInt32).toInt32) &&& (3 : Int32))), .val .null, .val (.ref an), .unset] [.null])
            refine own_st (fun t_ k_ => XS.astore X32.here hx rfl (hb hby at_97) rfl rfl (l' := #[.val (.int fg), .val (.int c0), .val (.int c1), .val (.int c2), .val (.int bz), .val (.int (1 : Int32)), .val (.int (1 : Int32)), .val (.int (((fg.toUInt32 >>> ((3 : Int32) &&& 31).toUInt32).toInt32) &&& (3 : Int32))), .val .null, .val (.ref an), .val .null]) rfl k_) ?_
            show own_Go p e below _ T32 (mkF m 99 #[.val (.int fg), .val (.int c0), .val (.int c1), .val (.int c2), .val (.int bz), .val (.int (1 : Int32)), .val (.int (1 : Int32)), .val (.int (((fg.toUInt32 >>> ((3 : Int32) &&& 31).toUInt32).toInt32) &&& (3 : Int32))), .val .null, .val (.ref an), .val .null] [])
            refine own_st (fun t_ k_ => XS.iload X32.here hx rfl (hb hby at_99) rfl k_) ?_
            show own_Go p e below _ T32 (mkF m 101 #[.val (.int fg), .val (.int c0), .val (.int c1), .val (.int c2), .val (.int bz), .val (.int (1 : Int32)), .val (.int (1 : Int32)), .val (.int (((fg.toUInt32 >>> ((3 : Int32) &&& 31).toUInt32).toInt32) &&& (3 : Int32))), .val .null, .val (.ref an), .val .null] [(.int (1 : Int32))])
            refine own_st (fun t_ k_ => XS.ifYes X32.here hx rfl (pc0 := 101) (pc' := 109) rfl (hb hby at_101) rfl (by decide) (by decide) (by decide) k_) ?_
            show own_Go p e below _ T32 (mkF m 109 #[.val (.int fg), .val (.int c0), .val (.int c1), .val (.int c2), .val (.int bz), .val (.int (1 : Int32)), .val (.int (1 : Int32)), .val (.int (((fg.toUInt32 >>> ((3 : Int32) &&& 31).toUInt32).toInt32) &&& (3 : Int32))), .val .null, .val (.ref an), .val .null] [])
            refine own_st (fun t_ k_ => XS.aload X32.here hx rfl (hb hby at_109) rfl rfl k_) ?_
            show own_Go p e below _ T32 (mkF m 111 #[.val (.int fg), .val (.int c0), .val (.int c1), .val (.int c2), .val (.int bz), .val (.int (1 : Int32)), .val (.int (1 : Int32)), .val (.int (((fg.toUInt32 >>> ((3 : Int32) &&& 31).toUInt32).toInt32) &&& (3 : Int32))), .val .null, .val (.ref an), .val .null] [.null])
            refine own_st (fun t_ k_ => XS.ifnonnullNo X32.here hx rfl (hb hby at_111) rfl k_) ?_
            show own_Go p e below _ T32 (mkF m 114 #[.val (.int fg), .val (.int c0), .val (.int c1), .val (.int c2), .val (.int bz), .val (.int (1 : Int32)), .val (.int (1 : Int32)), .val (.int (((fg.toUInt32 >>> ((3 : Int32) &&& 31).toUInt32).toInt32) &&& (3 : Int32))), .val .null, .val (.ref an), .val .null] [])
            refine own_st (fun t_ k_ => XS.iconst X32.here hx rfl (hb hby at_114) k_) ?_
            show own_Go p e below _ T32 (mkF m 115 #[.val (.int fg), .val (.int c0), .val (.int c1), .val (.int c2), .val (.int bz), .val (.int (1 : Int32)), .val (.int (1 : Int32)), .val (.int (((fg.toUInt32 >>> ((3 : Int32) &&& 31).toUInt32).toInt32) &&& (3 : Int32))), .val .null, .val (.ref an), .val .null] [(.int (1 : Int32))])
            refine own_st (fun t_ k_ => XS.goto X32.here hx rfl (pc0 := 115) (pc' := 119) rfl (hb hby at_115) (by decide) (by decide) k_) ?_
            show own_Go p e below _ T32 (mkF m 119 #[.val (.int fg), .val (.int c0), .val (.int c1), .val (.int c2), .val (.int bz), .val (.int (1 : Int32)), .val (.int (1 : Int32)), .val (.int (((fg.toUInt32 >>> ((3 : Int32) &&& 31).toUInt32).toInt32) &&& (3 : Int32))), .val .null, .val (.ref an), .val .null] [(.int (1 : Int32))])
            refine own_retNS X32 hx hlk hZ hEL hh32 hh B0 (t := .boolean) Bd.returns (by simp) (hb hby at_119) ?_ (by decide) (by decide)
            show Q0 n0 _ T32.heap _
            rw [hh32]
            exact ⟨rfl, N32⟩
      · show own_Go p e below _ s₁ (mkF m 29 #[.val (.int fg), .val (.int c0), .val (.int c1), .val (.int c2), .val (.int bz), .val (.int b5), .unset, .unset, .unset, .unset, .unset] [(.int (fg &&& (4 : Int32)))])
        by_cases hc29_3 : (fg &&& (4 : Int32)) = (0 : Int32)
        · refine own_st (fun t_ k_ => XS.ifYes X0.here hx rfl (pc0 := 29) (pc' := 36) rfl (hb hby at_29) rfl ((if0 _ _).trans (teq hc29_3).1) (by decide) (by decide) k_) ?_
          show own_Go p e below _ s₁ (mkF m 36 #[.val (.int fg), .val (.int c0), .val (.int c1), .val (.int c2), .val (.int bz), .val (.int b5), .unset, .unset, .unset, .unset, .unset] [])
          refine own_st (fun t_ k_ => XS.iconst X0.here hx rfl (hb hby at_36) k_) ?_
          show own_Go p e below _ s₁ (mkF m 37 #[.val (.int fg), .val (.int c0), .val (.int c1), .val (.int c2), .val (.int bz), .val (.int b5), .unset, .unset, .unset, .unset, .unset] [(.int (0 : Int32))])
          exact J_b6 (0 : Int32) (Or.inl rfl)
        · refine own_st (fun t_ k_ => XS.ifNo X0.here hx rfl (hb hby at_29) rfl ((if0 _ _).trans (feq hc29_3).1) k_) ?_
          show own_Go p e below _ s₁ (mkF m 32 #[.val (.int fg), .val (.int c0), .val (.int c1), .val (.int c2), .val (.int bz), .val (.int b5), .unset, .unset, .unset, .unset, .unset] [])
          refine own_st (fun t_ k_ => XS.iconst X0.here hx rfl (hb hby at_32) k_) ?_
          show own_Go p e below _ s₁ (mkF m 33 #[.val (.int fg), .val (.int c0), .val (.int c1), .val (.int c2), .val (.int bz), .val (.int b5), .unset, .unset, .unset, .unset, .unset] [(.int (1 : Int32))])
          refine own_st (fun t_ k_ => XS.goto X0.here hx rfl (pc0 := 33) (pc' := 37) rfl (hb hby at_33) (by decide) (by decide) k_) ?_
          show own_Go p e below _ s₁ (mkF m 37 #[.val (.int fg), .val (.int c0), .val (.int c1), .val (.int c2), .val (.int bz), .val (.int b5), .unset, .unset, .unset, .unset, .unset] [(.int (1 : Int32))])
          exact J_b6 (1 : Int32) (Or.inr rfl)
    · show own_Go p e below _ s₁ (mkF m 16 #[.val (.int fg), .val (.int c0), .val (.int c1), .val (.int c2), .val (.int bz), .unset, .unset, .unset, .unset, .unset, .unset] [(.int (fg &&& (2 : Int32)))])
      by_cases hc16_2 : (fg &&& (2 : Int32)) = (0 : Int32)
      · refine own_st (fun t_ k_ => XS.ifYes X0.here hx rfl (pc0 := 16) (pc' := 23) rfl (hb hby at_16) rfl ((if0 _ _).trans (teq hc16_2).1) (by decide) (by decide) k_) ?_
        show own_Go p e below _ s₁ (mkF m 23 #[.val (.int fg), .val (.int c0), .val (.int c1), .val (.int c2), .val (.int bz), .unset, .unset, .unset, .unset, .unset, .unset] [])
        refine own_st (fun t_ k_ => XS.iconst X0.here hx rfl (hb hby at_23) k_) ?_
        show own_Go p e below _ s₁ (mkF m 24 #[.val (.int fg), .val (.int c0), .val (.int c1), .val (.int c2), .val (.int bz), .unset, .unset, .unset, .unset, .unset, .unset] [(.int (0 : Int32))])
        exact J_b5 (0 : Int32) (Or.inl rfl)
      · refine own_st (fun t_ k_ => XS.ifNo X0.here hx rfl (hb hby at_16) rfl ((if0 _ _).trans (feq hc16_2).1) k_) ?_
        show own_Go p e below _ s₁ (mkF m 19 #[.val (.int fg), .val (.int c0), .val (.int c1), .val (.int c2), .val (.int bz), .unset, .unset, .unset, .unset, .unset, .unset] [])
        refine own_st (fun t_ k_ => XS.iconst X0.here hx rfl (hb hby at_19) k_) ?_
        show own_Go p e below _ s₁ (mkF m 20 #[.val (.int fg), .val (.int c0), .val (.int c1), .val (.int c2), .val (.int bz), .unset, .unset, .unset, .unset, .unset, .unset] [(.int (1 : Int32))])
        refine own_st (fun t_ k_ => XS.goto X0.here hx rfl (pc0 := 20) (pc' := 24) rfl (hb hby at_20) (by decide) (by decide) k_) ?_
        show own_Go p e below _ s₁ (mkF m 24 #[.val (.int fg), .val (.int c0), .val (.int c1), .val (.int c2), .val (.int bz), .unset, .unset, .unset, .unset, .unset, .unset] [(.int (1 : Int32))])
        exact J_b5 (1 : Int32) (Or.inr rfl)
  · show own_Go p e below _ s₁ (mkF m 3 #[.val (.int fg), .val (.int c0), .val (.int c1), .val (.int c2), .unset, .unset, .unset, .unset, .unset, .unset, .unset] [(.int (fg &&& (1 : Int32)))])
    by_cases hc3_1 : (fg &&& (1 : Int32)) = (0 : Int32)
    · refine own_st (fun t_ k_ => XS.ifYes X0.here hx rfl (pc0 := 3) (pc' := 10) rfl (hb hby at_3) rfl ((if0 _ _).trans (teq hc3_1).1) (by decide) (by decide) k_) ?_
      show own_Go p e below _ s₁ (mkF m 10 #[.val (.int fg), .val (.int c0), .val (.int c1), .val (.int c2), .unset, .unset, .unset, .unset, .unset, .unset, .unset] [])
      refine own_st (fun t_ k_ => XS.iconst X0.here hx rfl (hb hby at_10) k_) ?_
      show own_Go p e below _ s₁ (mkF m 11 #[.val (.int fg), .val (.int c0), .val (.int c1), .val (.int c2), .unset, .unset, .unset, .unset, .unset, .unset, .unset] [(.int (0 : Int32))])
      exact J_bz (0 : Int32) (Or.inl rfl)
    · refine own_st (fun t_ k_ => XS.ifNo X0.here hx rfl (hb hby at_3) rfl ((if0 _ _).trans (feq hc3_1).1) k_) ?_
      show own_Go p e below _ s₁ (mkF m 6 #[.val (.int fg), .val (.int c0), .val (.int c1), .val (.int c2), .unset, .unset, .unset, .unset, .unset, .unset, .unset] [])
      refine own_st (fun t_ k_ => XS.iconst X0.here hx rfl (hb hby at_6) k_) ?_
      show own_Go p e below _ s₁ (mkF m 7 #[.val (.int fg), .val (.int c0), .val (.int c1), .val (.int c2), .unset, .unset, .unset, .unset, .unset, .unset, .unset] [(.int (1 : Int32))])
      refine own_st (fun t_ k_ => XS.goto X0.here hx rfl (pc0 := 7) (pc' := 11) rfl (hb hby at_7) (by decide) (by decide) k_) ?_
      show own_Go p e below _ s₁ (mkF m 11 #[.val (.int fg), .val (.int c0), .val (.int c1), .val (.int c2), .unset, .unset, .unset, .unset, .unset, .unset, .unset] [(.int (1 : Int32))])
      exact J_bz (1 : Int32) (Or.inr rfl)
set_option maxRecDepth 65536 in
set_option maxHeartbeats 40000000 in
theorem comes_1 {Post : Tables → Env → Array Value → State → Outcome → State → Prop} (hpost : ∀ tb e args s v u, (limb_1_1.after args s (.returned v) u = true ∧ limb_1_2.after args s (.returned v) u = true ∧ True) → ReturnedEndW s (.returned v) u (Jvm.fieldLocs frame_1_writes args s ++ Jvm.arrayLocs frame_1_arrays args s ++ Jvm.staticLocs frame_1_statics s) 24 1152 → Post tb e args s (.returned v) u) :
    ArmFor flags0 classFile x code maxLocals ret World_1 tables_1 room_1 Calls_1 rest_1 Pre_1 Post := by
  intro l hfl _ _ p e ha hc hk s m args below hf hA hF happ hP
  obtain ⟨hcalls, hrest, hpre⟩ := hP
  obtain ⟨-, -, -, hnamed, -, -, -, hat⟩ := (Spec.applies_iff hf).mp happ
  obtain ⟨hg, hn⟩ := and_e (Cond.before_iff.mp (show (Jvm.Cond.and given_1 narrow_1).before args s = true from hpre))
  obtain ⟨g0, hg0⟩ := and_e hg
  obtain ⟨g1, hg1⟩ := and_e hg0
  obtain ⟨g2, hg2⟩ := and_e hg1
  obtain ⟨g3, hg3⟩ := and_e hg2
  obtain ⟨w0, w1, w2, w3, rfl⟩ : ∃ w0 w1 w2 w3 : Value, args = #[w0, w1, w2, w3] := by
    have hs : args.size = 4 := by simpa [Cond.value, given_1] using g0
    obtain ⟨L⟩ := args
    match L, hs with
    | [w0, w1, w2, w3], _ => exact ⟨w0, w1, w2, w3, rfl⟩
  have hw := fun d (hd : d ∈ tables_1) => atoms_spec (ws := Jvm.Cond.code x code maxLocals ret :: tables_1) hat d (List.mem_cons_of_mem _ hd)
  have hfit : Fit s := fun {y c} hc i hi => by
    obtain ⟨ha, rfl⟩ := Array.getElem?_eq_some_iff.mp hc
    have q := List.all_eq_true.mp ((Array.all_eq_true_iff_forall_mem.mp hF) _ (Array.getElem_mem ha)) i (List.mem_range.mpr hi)
    simpa [Array.getElem?_eq_getElem hi] using q
  obtain ⟨hsets, hown0⟩ := atoms_of _ (rest_1_c_eq ▸ (show rest_1_c.before _ s = true from hrest))
  obtain ⟨i0, ei0⟩ := is_v g1
  obtain rfl : w0 = (.int i0) := Option.some.inj ei0
  obtain ⟨i1, ei1⟩ := is_v g2
  obtain rfl : w1 = (.int i1) := Option.some.inj ei1
  obtain ⟨i2, ei2⟩ := is_v g3
  obtain rfl : w2 = (.int i2) := Option.some.inj ei2
  obtain ⟨i3, ei3⟩ := is_v hg3
  obtain rfl : w3 = (.int i3) := Option.some.inj ei3
  obtain ⟨n0, hn0⟩ := and_e hn
  obtain ⟨a0, ev0⟩ := exa_v n0
  have Xa0 := Exa.start ev0 n0
  have Sa0 := Sta.start ev0 (Or.inr ⟨(hw _ (List.mem_of_getElem? (i := 28) rfl)), (hw _ (List.mem_of_getElem? (i := 75) rfl))⟩)
  have Fa1 := Fld.start (own_feqI hn0 ev0)
  have n5 := not_v (Cond.before_iff.mp (hsets _ (List.mem_of_getElem? (i := 9) rfl)))
  obtain ⟨cs11, e10⟩ := is_v (Cond.before_iff.mp (hsets _ (List.mem_of_getElem? (i := 8) rfl)))
  have S12 : Sta s s.heap "java/lang/String" "COMPACT_STRINGS" "Z" (.int cs11) := Sta.start e10 (Or.inl (hsets _ (List.mem_of_getElem? (i := 7) rfl)))
  have c17 : ¬ (cs11 = (0 : Int32)) := gotF (Cond.eq_ints e10 (Term.int_eval (0))) n5
  obtain ⟨v13, e14, r15⟩ := isR_v (Cond.before_iff.mp (hsets _ (List.mem_of_getElem? (i := 15) rfl)))
  have S16 : Sta s s.heap "jdk/internal/util/Preconditions" "SIOOBE_FORMATTER" "Ljava/util/function/BiFunction;" v13 := Sta.start e14 (Or.inl (hsets _ (List.mem_of_getElem? (i := 14) rfl)))
  have hCH : CHv s consts_1 s.vm s.heap := CHv.start (own_EL hw) (fun p hp => hcalls.1 p hp) (hsets _ (List.mem_of_getElem? (i := 9) rfl)) (hw _ (List.mem_of_getElem? (i := 19) rfl)) (hw _ (List.mem_of_getElem? (i := 5) rfl))
  obtain ⟨em, ee⟩ := exa_v (Cond.before_iff.mp (hsets _ (List.mem_of_getElem? (i := 2) rfl)))
  have Em := Exa.start ee (Cond.before_iff.mp (hsets _ (List.mem_of_getElem? (i := 2) rfl)))
  have SM := Sta.start ee (Or.inl (hsets _ (List.mem_of_getElem? (i := 1) rfl)))
  obtain ⟨n, o, h1, h2, h3, _, L, rfl, ⟨rfl, N⟩, -, hq⟩ := rm0 l s _ hw tables_1 i0 i1 i2 i3 cs11 em a0 s.heap s.heap.size (Nat.le_refl _) S12 c17 (Old.start s) SM Sa0 Em Xa0 Fa1 p e ha hc hk s m _ below hf ((Spec.applies_iff_loose hf).mp happ).1 ⟨rfl, State.Warmed39.refl s, rfl, hCH⟩ trivial
  refine ⟨n, _, h1, h2, h3, hpost _ _ _ _ _ _ ⟨Cond.after_iff.mpr rfl, Cond.after_iff.mpr (eq_i res_at (Term.int_eval (1)) rfl), trivial⟩ ⟨hq.1, hq.2.1, hq.2.2.1, (hq.2.2.2.sift fun y hy => Or.inr (N y hy)).mono (by decide) (by decide)⟩⟩
theorem main_1_1 : Claimed_1_1 := comes_1 fun _ _ _ _ _ _ h hF => ⟨h.1, hF⟩
theorem main_1_2 : Claimed_1_2 := comes_1 fun _ _ _ _ _ _ h hF => ⟨h.2.1, hF⟩
end Jvm.Pilot.@@N@@
namespace Jvm.Pilot.@@N@@
open Jvm Jvm.ClassFile Sem Op Lib Jvm.Free Jvm.Stand Jvm.Pilot.@@N@@.Jvm.D
/-! MADE BY PROGRAM (witnessworld.py) out of the Statement's table words and the real class files: 26 classes; the members and pool entries that the words name. The judged class is class 1, her method 1. -/
namespace start1
open Jvm.ClassFile
def u (s : String) : CpInfo := .utf8 (stringToUtf16 s)
/-- a pool by its gaps: so many unusable entries, then the entry; so many at the end -/
def gap : Nat → List CpInfo → List CpInfo
  | 0, r => r
  | n + 1, r => .unusable :: gap n r
def poolList (es : List (Nat × CpInfo)) (last : Nat) : List CpInfo := es.foldr (fun e r => gap e.1 (e.2 :: r)) (gap last [])
def pool (es : List (Nat × CpInfo)) (last : Nat) : Array CpInfo := ⟨poolList es last⟩
def fileOf (pool : Array CpInfo) (this : Nat) (attrs : Array Attribute := #[]) (ms : Array MethodInfo := #[]) (fl : Nat := 33) (sup : Nat := 0) (ifs : Array Nat := #[]) (fds : Array FieldInfo := #[]) : ClassFile where
  minorVersion := 0
  majorVersion := 65
  constantPool := pool
  accessFlags := fl
  thisClass := this
  superClass := sup
  interfaces := ifs
  fields := fds
  methods := ms
  attributes := attrs
def plain (name : String) (sup : Option ClassId) : Class where
  name := name
  kind := .ordinary
  loader := none
  accessFlags := 33
  super := sup
  interfaces := #[]
  cf := none
  fields := #[]
  methods := #[]
  instanceTypes := #[]
  staticTypes := #[]
  resolved := #[]
  callSites := []
  init := .initialized
  statics := none
  mirror := none

def pool0 : Array CpInfo := pool [(5, u "<init>"), (0, u "()V"), (1, .class_ 10), (1, u "java/lang/Object")] 113

def k0c0 : Code := { maxStack := 0, maxLocals := 1, code := object_method_1_code, exceptionTable := #[], attributes := #[] }
def k0m0 : Method := { name := "<init>", desc := "()V", sig := { parameters := [], returnType := none }, accessFlags := 1, code := some k0c0 }
/-- java/lang/Object -/
def k0 : Class := { plain "java/lang/Object" none with
  accessFlags := 33
  interfaces := #[]
  cf := some (fileOf pool0 8 #[] #[{ accessFlags := 1, nameIndex := 5, descriptorIndex := 6, attributes := #[] }] 33 0 #[] #[])
  fields := #[]
  methods := #[k0m0]
  instanceTypes := #[]
  staticTypes := #[]
  resolved := Array.replicate 124 none
  statics := none }

def pool1 : Array CpInfo := pool [(2, .class_ 4), (1, u "java/lang/Object"), (0, u "<init>"), (0, u "()V"), (0, .methodref 8 9), (0, .class_ 10), (0, .nameAndType 11 12), (0, u "com/example/lean_pubsub/leanpubsub/auth/UsersAuthenticatedNamePinLaw"), (0, u "draw"), (0, u "(IIII)Ljava/lang/String;"), (0, .fieldref 14 15), (0, .class_ 16), (0, .nameAndType 17 18), (0, u "com/example/lean_pubsub/leanpubsub/auth/Users"), (0, u "ANYONE"), (0, u "Lcom/example/lean_pubsub/leanpubsub/auth/Users;"), (0, .interfaceMethodref 20 21), (0, .class_ 22), (0, .nameAndType 23 24), (0, u "java/util/Map"), (0, u "of"), (0, u "()Ljava/util/Map;"), (0, .methodref 14 26), (0, .nameAndType 5 27), (0, u "(Ljava/util/Map;Z)V"), (0, .methodref 14 29), (0, .nameAndType 30 31), (0, u "authenticatedName"), (0, u "(Ljava/lang/String;)Ljava/lang/String;"), (0, .methodref 33 34), (0, .class_ 35), (0, .nameAndType 36 37), (0, u "java/lang/String"), (0, u "equals"), (0, u "(Ljava/lang/Object;)Z"), (0, .methodref 33 39), (0, .nameAndType 5 40), (0, u "([C)V"), (2, u "law"), (0, u "(IIII)Z")] 3

def k1m0 : Method := { name := "<init>", desc := "()V", sig := { parameters := [], returnType := none }, accessFlags := 1, code := none }
def k1c1 : Code := { maxStack := 4, maxLocals := 11, code := code, exceptionTable := #[], attributes := #[] }
def k1m1 : Method := { name := "law", desc := "(IIII)Z", sig := { parameters := [.int, .int, .int, .int], returnType := some .boolean }, accessFlags := 9, code := some k1c1 }
def k1c2 : Code := { maxStack := 4, maxLocals := 5, code := method_3_code, exceptionTable := #[], attributes := #[] }
def k1m2 : Method := { name := "draw", desc := "(IIII)Ljava/lang/String;", sig := { parameters := [.int, .int, .int, .int], returnType := some (.object "java/lang/String") }, accessFlags := 10, code := some k1c2 }
/-- com/example/lean_pubsub/leanpubsub/auth/UsersAuthenticatedNamePinLaw -/
def k1 : Class := { plain "com/example/lean_pubsub/leanpubsub/auth/UsersAuthenticatedNamePinLaw" (some 0) with
  accessFlags := 49
  interfaces := #[]
  cf := some (fileOf pool1 8 #[] #[{ accessFlags := 1, nameIndex := 5, descriptorIndex := 6, attributes := #[] }, { accessFlags := 9, nameIndex := 43, descriptorIndex := 44, attributes := #[] }, { accessFlags := 10, nameIndex := 11, descriptorIndex := 12, attributes := #[] }] 49 2 #[] #[])
  fields := #[]
  methods := #[k1m0, k1m1, k1m2]
  instanceTypes := #[]
  staticTypes := #[]
  resolved := Array.replicate 48 none
  statics := none }

def pool2 : Array CpInfo := pool [(1, .class_ 2), (0, u "java/io/Serializable"), (0, .class_ 4), (0, u "java/lang/Object")] 2

/-- java/io/Serializable -/
def k2 : Class := { plain "java/io/Serializable" (some 0) with
  accessFlags := 1537
  interfaces := #[]
  cf := some (fileOf pool2 1 #[] #[] 1537 3 #[] #[])
  fields := #[]
  methods := #[]
  instanceTypes := #[]
  staticTypes := #[]
  resolved := Array.replicate 7 none
  statics := none }

def pool3 : Array CpInfo := pool [(1, .class_ 2), (0, u "java/lang/Comparable"), (0, .class_ 4), (0, u "java/lang/Object")] 7

/-- java/lang/Comparable -/
def k3 : Class := { plain "java/lang/Comparable" (some 0) with
  accessFlags := 1537
  interfaces := #[]
  cf := some (fileOf pool3 1 #[] #[] 1537 3 #[] #[])
  fields := #[]
  methods := #[]
  instanceTypes := #[]
  staticTypes := #[]
  resolved := Array.replicate 12 none
  statics := none }

def pool4 : Array CpInfo := pool [(2, .class_ 4), (1, u "java/lang/CharSequence"), (42, .class_ 48), (0, u "java/lang/CharSequence$1CodePointIterator"), (10, .class_ 60), (0, u "java/lang/CharSequence$1CharIterator"), (5, .class_ 67), (0, u "java/lang/Object")] 63

/-- java/lang/CharSequence -/
def k4 : Class := { plain "java/lang/CharSequence" (some 0) with
  accessFlags := 1537
  interfaces := #[]
  cf := some (fileOf pool4 2 #[.nestMembers #[47, 59]] #[] 1537 66 #[] #[])
  fields := #[]
  methods := #[]
  instanceTypes := #[]
  staticTypes := #[]
  resolved := Array.replicate 131 none
  statics := none }

def pool5 : Array CpInfo := pool [(1, .class_ 2), (0, u "java/lang/constant/Constable"), (0, .class_ 4), (0, u "java/lang/Object")] 6

/-- java/lang/constant/Constable -/
def k5 : Class := { plain "java/lang/constant/Constable" (some 0) with
  accessFlags := 1537
  interfaces := #[]
  cf := some (fileOf pool5 1 #[] #[] 1537 3 #[] #[])
  fields := #[]
  methods := #[]
  instanceTypes := #[]
  staticTypes := #[]
  resolved := Array.replicate 11 none
  statics := none }

def pool6 : Array CpInfo := pool [(1, .class_ 2), (0, u "java/lang/constant/ConstantDesc"), (0, .class_ 4), (0, u "java/lang/Object")] 32

/-- java/lang/constant/ConstantDesc -/
def k6 : Class := { plain "java/lang/constant/ConstantDesc" (some 0) with
  accessFlags := 1537
  interfaces := #[]
  cf := some (fileOf pool6 1 #[] #[] 1537 3 #[] #[])
  fields := #[]
  methods := #[]
  instanceTypes := #[]
  staticTypes := #[]
  resolved := Array.replicate 37 none
  statics := none }

def pool7 : Array CpInfo := pool [(1, .methodref 2 3), (0, .class_ 4), (0, .nameAndType 5 6), (0, u "java/lang/Object"), (0, u "<init>"), (0, u "()V"), (0, .string 8), (0, u ""), (0, .fieldref 10 11), (0, .class_ 12), (0, .nameAndType 13 14), (0, u "java/lang/String"), (0, u "value"), (0, u "[B"), (0, .fieldref 10 16), (0, .nameAndType 17 18), (0, u "coder"), (0, u "B"), (2, u "hash"), (0, u "I"), (2, u "hashIsZero"), (0, u "Z"), (0, .methodref 10 28), (0, .nameAndType 5 29), (0, u "([CIILjava/lang/Void;)V"), (8, .fieldref 10 39), (0, .nameAndType 40 26), (0, u "COMPACT_STRINGS"), (1, .class_ 44), (1, u "java/lang/StringUTF16"), (0, u "compress"), (1, .methodref 42 48), (0, .nameAndType 49 50), (0, u "coderFromArrayLen"), (0, u "([BI)B"), (126, .methodref 42 178), (0, .nameAndType 45 179), (0, u "([CII)[B"), (363, u "equals"), (29, u "(Ljava/lang/Object;)Z"), (1, .class_ 576), (0, u "java/lang/CharSequence"), (22, u "CASE_INSENSITIVE_ORDER"), (0, u "Ljava/util/Comparator;"), (409, u "([C)V"), (90, u "serialPersistentFields"), (0, u "[Ljava/io/ObjectStreamField;"), (0, .class_ 1104), (0, u "java/lang/String$CaseInsensitiveComparator"), (1, .class_ 1107), (0, u "java/io/Serializable"), (0, .class_ 1109), (0, u "java/lang/Comparable"), (0, .class_ 1111), (0, u "java/lang/constant/Constable"), (0, .class_ 1113), (0, u "java/lang/constant/ConstantDesc"), (2, u "serialVersionUID"), (0, u "J"), (3, u "REPL"), (0, u "C"), (2, u "LATIN1"), (1, u "UTF16")] 323

def k7m0 : Method := { name := "<init>", desc := "()V", sig := { parameters := [], returnType := none }, accessFlags := 1, code := none }
def k7c1 : Code := { maxStack := 5, maxLocals := 2, code := jdk_42_method_3_code, exceptionTable := #[], attributes := #[] }
def k7m1 : Method := { name := "<init>", desc := "([C)V", sig := { parameters := [(.array .char)], returnType := none }, accessFlags := 1, code := some k7c1 }
def k7c2 : Code := { maxStack := 2, maxLocals := 3, code := jdk_42_method_66_code, exceptionTable := #[], attributes := #[] }
def k7m2 : Method := { name := "equals", desc := "(Ljava/lang/Object;)Z", sig := { parameters := [(.object "java/lang/Object")], returnType := some .boolean }, accessFlags := 1, code := some k7c2 }
def k7c3 : Code := { maxStack := 4, maxLocals := 6, code := jdk_42_method_149_code, exceptionTable := #[], attributes := #[] }
def k7m3 : Method := { name := "<init>", desc := "([CIILjava/lang/Void;)V", sig := { parameters := [(.array .char), .int, .int, (.object "java/lang/Void")], returnType := none }, accessFlags := 2, code := some k7c3 }
/-- java/lang/String -/
def k7 : Class := { plain "java/lang/String" (some 0) with
  accessFlags := 49
  interfaces := #[2, 3, 4, 5, 6]
  cf := some (fileOf pool7 10 #[.nestMembers #[1103]] #[{ accessFlags := 1, nameIndex := 5, descriptorIndex := 6, attributes := #[] }, { accessFlags := 1, nameIndex := 5, descriptorIndex := 1010, attributes := #[] }, { accessFlags := 1, nameIndex := 543, descriptorIndex := 573, attributes := #[] }, { accessFlags := 2, nameIndex := 5, descriptorIndex := 29, attributes := #[] }] 49 2 #[1106, 1108, 575, 1110, 1112] #[{ accessFlags := 18, nameIndex := 13, descriptorIndex := 14, attributes := #[] }, { accessFlags := 18, nameIndex := 17, descriptorIndex := 18, attributes := #[] }, { accessFlags := 2, nameIndex := 21, descriptorIndex := 22, attributes := #[] }, { accessFlags := 2, nameIndex := 25, descriptorIndex := 26, attributes := #[] }, { accessFlags := 26, nameIndex := 1116, descriptorIndex := 1117, attributes := #[] }, { accessFlags := 24, nameIndex := 40, descriptorIndex := 26, attributes := #[] }, { accessFlags := 26, nameIndex := 1101, descriptorIndex := 1102, attributes := #[] }, { accessFlags := 26, nameIndex := 1121, descriptorIndex := 1122, attributes := #[] }, { accessFlags := 25, nameIndex := 599, descriptorIndex := 600, attributes := #[] }, { accessFlags := 24, nameIndex := 1125, descriptorIndex := 18, attributes := #[] }, { accessFlags := 24, nameIndex := 1127, descriptorIndex := 18, attributes := #[] }])
  fields := #[{ name := "value", type := (.array .byte), accessFlags := 18, slot := 0, constantValue := 0 }, { name := "coder", type := .byte, accessFlags := 18, slot := 1, constantValue := 0 }, { name := "hash", type := .int, accessFlags := 2, slot := 2, constantValue := 0 }, { name := "hashIsZero", type := .boolean, accessFlags := 2, slot := 3, constantValue := 0 }, { name := "serialVersionUID", type := .long, accessFlags := 26, slot := 0, constantValue := 0 }, { name := "COMPACT_STRINGS", type := .boolean, accessFlags := 24, slot := 1, constantValue := 0 }, { name := "serialPersistentFields", type := (.array (.object "java/io/ObjectStreamField")), accessFlags := 26, slot := 2, constantValue := 0 }, { name := "REPL", type := .char, accessFlags := 26, slot := 3, constantValue := 0 }, { name := "CASE_INSENSITIVE_ORDER", type := (.object "java/util/Comparator"), accessFlags := 25, slot := 4, constantValue := 0 }, { name := "LATIN1", type := .byte, accessFlags := 24, slot := 5, constantValue := 0 }, { name := "UTF16", type := .byte, accessFlags := 24, slot := 6, constantValue := 0 }]
  methods := #[k7m0, k7m1, k7m2, k7m3]
  instanceTypes := #[(.array .byte), .byte, .int, .boolean]
  staticTypes := #[.long, .boolean, (.array (.object "java/io/ObjectStreamField")), .char, (.object "java/util/Comparator"), .byte, .byte]
  resolved := Array.replicate 1451 none
  statics := some 0 }

def pool8 : Array CpInfo := pool [(1, .interfaceMethodref 2 3), (0, .class_ 4), (0, .nameAndType 5 6), (0, u "java/util/Map"), (0, u "copyOf"), (0, u "(Ljava/util/Map;)Ljava/util/Map;"), (0, .methodref 8 9), (0, .class_ 10), (0, .nameAndType 11 12), (0, u "com/example/lean_pubsub/leanpubsub/auth/Users"), (0, u "<init>"), (0, u "(Ljava/util/Map;ZZ)V"), (0, .methodref 14 15), (0, .class_ 16), (0, .nameAndType 11 17), (0, u "java/lang/Object"), (0, u "()V"), (0, .fieldref 8 19), (0, .nameAndType 20 21), (0, u "passwords"), (0, u "Ljava/util/Map;"), (0, .fieldref 8 23), (0, .nameAndType 24 25), (0, u "anonymousAllowed"), (0, u "Z"), (0, .fieldref 8 27), (0, .nameAndType 28 25), (0, u "namesChecked"), (8, u "NOBODY"), (0, u "Lcom/example/lean_pubsub/leanpubsub/auth/PasswordHash;"), (10, u "ANYONE"), (0, u "Lcom/example/lean_pubsub/leanpubsub/auth/Users;"), (7, u "(Ljava/util/Map;Z)V"), (11, u "authenticatedName"), (0, u "(Ljava/lang/String;)Ljava/lang/String;")] 5

def k8c0 : Code := { maxStack := 4, maxLocals := 3, code := prog_14_method_1_code, exceptionTable := #[], attributes := #[] }
def k8m0 : Method := { name := "<init>", desc := "(Ljava/util/Map;Z)V", sig := { parameters := [(.object "java/util/Map"), .boolean], returnType := none }, accessFlags := 1, code := some k8c0 }
def k8c1 : Code := { maxStack := 2, maxLocals := 4, code := prog_14_method_2_code, exceptionTable := #[], attributes := #[] }
def k8m1 : Method := { name := "<init>", desc := "(Ljava/util/Map;ZZ)V", sig := { parameters := [(.object "java/util/Map"), .boolean, .boolean], returnType := none }, accessFlags := 2, code := some k8c1 }
def k8c2 : Code := { maxStack := 1, maxLocals := 2, code := prog_14_method_4_code, exceptionTable := #[], attributes := #[] }
def k8m2 : Method := { name := "authenticatedName", desc := "(Ljava/lang/String;)Ljava/lang/String;", sig := { parameters := [(.object "java/lang/String")], returnType := some (.object "java/lang/String") }, accessFlags := 1, code := some k8c2 }
/-- com/example/lean_pubsub/leanpubsub/auth/Users -/
def k8 : Class := { plain "com/example/lean_pubsub/leanpubsub/auth/Users" (some 0) with
  accessFlags := 33
  interfaces := #[]
  cf := some (fileOf pool8 8 #[] #[{ accessFlags := 1, nameIndex := 11, descriptorIndex := 58, attributes := #[] }, { accessFlags := 2, nameIndex := 11, descriptorIndex := 12, attributes := #[] }, { accessFlags := 1, nameIndex := 70, descriptorIndex := 71, attributes := #[] }] 33 14 #[] #[{ accessFlags := 25, nameIndex := 49, descriptorIndex := 50, attributes := #[] }, { accessFlags := 26, nameIndex := 37, descriptorIndex := 38, attributes := #[] }, { accessFlags := 18, nameIndex := 20, descriptorIndex := 21, attributes := #[] }, { accessFlags := 18, nameIndex := 24, descriptorIndex := 25, attributes := #[] }, { accessFlags := 18, nameIndex := 28, descriptorIndex := 25, attributes := #[] }])
  fields := #[{ name := "ANYONE", type := (.object "com/example/lean_pubsub/leanpubsub/auth/Users"), accessFlags := 25, slot := 0, constantValue := 0 }, { name := "NOBODY", type := (.object "com/example/lean_pubsub/leanpubsub/auth/PasswordHash"), accessFlags := 26, slot := 1, constantValue := 0 }, { name := "passwords", type := (.object "java/util/Map"), accessFlags := 18, slot := 0, constantValue := 0 }, { name := "anonymousAllowed", type := .boolean, accessFlags := 18, slot := 1, constantValue := 0 }, { name := "namesChecked", type := .boolean, accessFlags := 18, slot := 2, constantValue := 0 }]
  methods := #[k8m0, k8m1, k8m2]
  instanceTypes := #[(.object "java/util/Map"), .boolean, .boolean]
  staticTypes := #[(.object "com/example/lean_pubsub/leanpubsub/auth/Users"), (.object "com/example/lean_pubsub/leanpubsub/auth/PasswordHash")]
  resolved := Array.replicate 77 none
  statics := some 1 }

def pool9 : Array CpInfo := pool [(2, .class_ 4), (1, u "java/util/Map"), (31, .class_ 37), (0, u "java/util/Map$Entry"), (43, .fieldref 82 83), (0, .class_ 84), (0, .nameAndType 85 86), (0, u "java/util/ImmutableCollections"), (0, u "EMPTY_MAP"), (0, u "Ljava/util/ImmutableCollections$MapN;"), (6, .class_ 94), (0, u "java/lang/Object"), (6, .class_ 102), (0, u "java/util/ImmutableCollections$AbstractImmutableMap"), (5, u "of"), (0, u "()Ljava/util/Map;"), (140, u "copyOf"), (0, u "(Ljava/util/Map;)Ljava/util/Map;")] 11

def k9c0 : Code := { maxStack := 1, maxLocals := 0, code := jdk_72_method_26_code, exceptionTable := #[], attributes := #[] }
def k9m0 : Method := { name := "of", desc := "()Ljava/util/Map;", sig := { parameters := [], returnType := some (.object "java/util/Map") }, accessFlags := 9, code := some k9c0 }
def k9c1 : Code := { maxStack := 2, maxLocals := 1, code := jdk_72_method_39_code, exceptionTable := #[], attributes := #[] }
def k9m1 : Method := { name := "copyOf", desc := "(Ljava/util/Map;)Ljava/util/Map;", sig := { parameters := [(.object "java/util/Map")], returnType := some (.object "java/util/Map") }, accessFlags := 9, code := some k9c1 }
/-- java/util/Map -/
def k9 : Class := { plain "java/util/Map" (some 0) with
  accessFlags := 1537
  interfaces := #[]
  cf := some (fileOf pool9 2 #[.nestMembers #[36]] #[{ accessFlags := 9, nameIndex := 108, descriptorIndex := 109, attributes := #[] }, { accessFlags := 9, nameIndex := 250, descriptorIndex := 251, attributes := #[] }] 1537 93 #[] #[])
  fields := #[]
  methods := #[k9m0, k9m1]
  instanceTypes := #[]
  staticTypes := #[]
  resolved := Array.replicate 263 none
  statics := none }

def pool10 : Array CpInfo := pool [(2, .class_ 4), (1, u "java/lang/Object"), (0, u "<init>"), (0, u "()V"), (3, .class_ 11), (0, u "java/util/ImmutableCollections$List12"), (0, .class_ 13), (0, u "java/util/ImmutableCollections$ListN"), (3, u "Z"), (29, .class_ 49), (1, u "java/util/ImmutableCollections"), (0, u "$assertionsDisabled"), (5, u "[Ljava/lang/Object;"), (5, u "EMPTY_LIST"), (0, u "Ljava/util/ImmutableCollections$ListN;"), (8, u "EMPTY_LIST_NULLS"), (22, u "SALT32L"), (0, u "J"), (2, u "REVERSE"), (6, u "archivedObjects"), (2, u "EMPTY"), (0, u "Ljava/lang/Object;"), (0, .class_ 112), (0, u "java/util/ImmutableCollections$SetN"), (5, u "EMPTY_SET"), (0, u "Ljava/util/ImmutableCollections$SetN;"), (0, .class_ 121), (0, u "java/util/ImmutableCollections$MapN"), (3, u "EMPTY_MAP"), (0, u "Ljava/util/ImmutableCollections$MapN;"), (4, u "EXPAND_FACTOR"), (0, u "I"), (36, .class_ 170), (0, u "java/util/ImmutableCollections$MapN$MapNIterator"), (0, .class_ 172), (0, u "java/util/ImmutableCollections$MapN$1"), (0, .class_ 174), (0, u "java/util/ImmutableCollections$Map1"), (0, .class_ 176), (0, u "java/util/ImmutableCollections$AbstractImmutableMap"), (0, .class_ 178), (0, u "java/util/ImmutableCollections$SetN$SetNIterator"), (0, .class_ 180), (0, u "java/util/ImmutableCollections$Set12"), (0, .class_ 182), (0, u "java/util/ImmutableCollections$Set12$1"), (0, .class_ 184), (0, u "java/util/ImmutableCollections$AbstractImmutableSet"), (0, .class_ 186), (0, u "java/util/ImmutableCollections$SubList"), (0, .class_ 188), (0, u "java/util/ImmutableCollections$ListItr"), (0, .class_ 190), (0, u "java/util/ImmutableCollections$AbstractImmutableList"), (0, .class_ 192), (0, u "java/util/ImmutableCollections$AbstractImmutableCollection"), (0, .class_ 194), (0, u "java/util/ImmutableCollections$Access"), (0, .class_ 196), (0, u "java/util/ImmutableCollections$Access$1")] 16

def k10m0 : Method := { name := "<init>", desc := "()V", sig := { parameters := [], returnType := none }, accessFlags := 2, code := none }
/-- java/util/ImmutableCollections -/
def k10 : Class := { plain "java/util/ImmutableCollections" (some 0) with
  accessFlags := 32
  interfaces := #[]
  cf := some (fileOf pool10 47 #[.nestMembers #[120, 169, 171, 173, 175, 111, 177, 179, 181, 183, 12, 10, 185, 187, 189, 191, 193, 195]] #[{ accessFlags := 2, nameIndex := 5, descriptorIndex := 6, attributes := #[] }] 32 2 #[] #[{ accessFlags := 26, nameIndex := 95, descriptorIndex := 96, attributes := #[] }, { accessFlags := 26, nameIndex := 99, descriptorIndex := 17, attributes := #[] }, { accessFlags := 10, nameIndex := 106, descriptorIndex := 56, attributes := #[] }, { accessFlags := 26, nameIndex := 109, descriptorIndex := 110, attributes := #[] }, { accessFlags := 24, nameIndex := 62, descriptorIndex := 63, attributes := #[] }, { accessFlags := 24, nameIndex := 72, descriptorIndex := 63, attributes := #[] }, { accessFlags := 24, nameIndex := 118, descriptorIndex := 119, attributes := #[] }, { accessFlags := 24, nameIndex := 125, descriptorIndex := 126, attributes := #[] }, { accessFlags := 24, nameIndex := 131, descriptorIndex := 132, attributes := #[] }, { accessFlags := 4120, nameIndex := 50, descriptorIndex := 17, attributes := #[] }])
  fields := #[{ name := "SALT32L", type := .long, accessFlags := 26, slot := 0, constantValue := 0 }, { name := "REVERSE", type := .boolean, accessFlags := 26, slot := 1, constantValue := 0 }, { name := "archivedObjects", type := (.array (.object "java/lang/Object")), accessFlags := 10, slot := 2, constantValue := 0 }, { name := "EMPTY", type := (.object "java/lang/Object"), accessFlags := 26, slot := 3, constantValue := 0 }, { name := "EMPTY_LIST", type := (.object "java/util/ImmutableCollections$ListN"), accessFlags := 24, slot := 4, constantValue := 0 }, { name := "EMPTY_LIST_NULLS", type := (.object "java/util/ImmutableCollections$ListN"), accessFlags := 24, slot := 5, constantValue := 0 }, { name := "EMPTY_SET", type := (.object "java/util/ImmutableCollections$SetN"), accessFlags := 24, slot := 6, constantValue := 0 }, { name := "EMPTY_MAP", type := (.object "java/util/ImmutableCollections$MapN"), accessFlags := 24, slot := 7, constantValue := 0 }, { name := "EXPAND_FACTOR", type := .int, accessFlags := 24, slot := 8, constantValue := 0 }, { name := "$assertionsDisabled", type := .boolean, accessFlags := 4120, slot := 9, constantValue := 0 }]
  methods := #[k10m0]
  instanceTypes := #[]
  staticTypes := #[.long, .boolean, (.array (.object "java/lang/Object")), (.object "java/lang/Object"), (.object "java/util/ImmutableCollections$ListN"), (.object "java/util/ImmutableCollections$ListN"), (.object "java/util/ImmutableCollections$SetN"), (.object "java/util/ImmutableCollections$MapN"), .int, .boolean]
  resolved := Array.replicate 213 none
  statics := some 2 }

def pool11 : Array CpInfo := pool [(2, .class_ 4), (1, u "java/lang/Object"), (0, u "<init>"), (0, u "()V"), (1, .class_ 10), (1, u "java/util/AbstractMap"), (42, .class_ 54), (0, u "java/util/Map"), (9, u "keySet"), (0, u "Ljava/util/Set;"), (0, .class_ 67), (0, u "java/util/AbstractMap$1"), (5, u "values"), (0, u "Ljava/util/Collection;"), (0, .class_ 76), (0, u "java/util/AbstractMap$2"), (104, .class_ 182), (0, u "java/util/AbstractMap$ViewCollection"), (0, .class_ 184), (0, u "java/util/AbstractMap$SimpleImmutableEntry"), (0, .class_ 186), (0, u "java/util/AbstractMap$SimpleEntry"), (0, .class_ 188), (0, u "java/util/AbstractMap$2$1"), (0, .class_ 190), (0, u "java/util/AbstractMap$1$1")] 5

def k11m0 : Method := { name := "<init>", desc := "()V", sig := { parameters := [], returnType := none }, accessFlags := 4, code := none }
/-- java/util/AbstractMap -/
def k11 : Class := { plain "java/util/AbstractMap" (some 0) with
  accessFlags := 1057
  interfaces := #[9]
  cf := some (fileOf pool11 8 #[.nestMembers #[181, 183, 185, 75, 187, 66, 189]] #[{ accessFlags := 4, nameIndex := 5, descriptorIndex := 6, attributes := #[] }] 1057 2 #[53] #[{ accessFlags := 128, nameIndex := 64, descriptorIndex := 65, attributes := #[] }, { accessFlags := 128, nameIndex := 73, descriptorIndex := 74, attributes := #[] }])
  fields := #[{ name := "keySet", type := (.object "java/util/Set"), accessFlags := 128, slot := 0, constantValue := 0 }, { name := "values", type := (.object "java/util/Collection"), accessFlags := 128, slot := 1, constantValue := 0 }]
  methods := #[k11m0]
  instanceTypes := #[(.object "java/util/Set"), (.object "java/util/Collection")]
  staticTypes := #[]
  resolved := Array.replicate 196 none
  statics := none }

def pool12 : Array CpInfo := pool [(2, .class_ 4), (1, u "java/util/AbstractMap"), (0, u "<init>"), (0, u "()V"), (1, .class_ 10), (1, u "java/util/ImmutableCollections"), (3, .class_ 16), (1, u "java/util/ImmutableCollections$AbstractImmutableMap"), (2, .class_ 20), (0, u "java/io/Serializable")] 66

def k12m0 : Method := { name := "<init>", desc := "()V", sig := { parameters := [], returnType := none }, accessFlags := 0, code := none }
/-- java/util/ImmutableCollections$AbstractImmutableMap -/
def k12 : Class := { plain "java/util/ImmutableCollections$AbstractImmutableMap" (some 11) with
  accessFlags := 1056
  interfaces := #[2]
  cf := some (fileOf pool12 14 #[.nestHost 8] #[{ accessFlags := 0, nameIndex := 5, descriptorIndex := 6, attributes := #[] }] 1056 2 #[19] #[])
  fields := #[]
  methods := #[k12m0]
  instanceTypes := #[(.object "java/util/Set"), (.object "java/util/Collection")]
  staticTypes := #[]
  resolved := Array.replicate 87 none
  statics := none }

def pool13 : Array CpInfo := pool [(1, .class_ 2), (0, u "java/util/ImmutableCollections"), (1, .class_ 6), (1, u "java/util/ImmutableCollections$AbstractImmutableMap"), (10, .class_ 19), (1, u "java/util/ImmutableCollections$MapN"), (0, u "size"), (0, u "I"), (4, u "table"), (0, u "[Ljava/lang/Object;")] 121

/-- java/util/ImmutableCollections$MapN -/
def k13 : Class := { plain "java/util/ImmutableCollections$MapN" (some 12) with
  accessFlags := 48
  interfaces := #[]
  cf := some (fileOf pool13 17 #[.nestHost 1] #[] 48 4 #[] #[{ accessFlags := 16, nameIndex := 26, descriptorIndex := 27, attributes := #[] }, { accessFlags := 16, nameIndex := 20, descriptorIndex := 21, attributes := #[] }])
  fields := #[{ name := "table", type := (.array (.object "java/lang/Object")), accessFlags := 16, slot := 2, constantValue := 0 }, { name := "size", type := .int, accessFlags := 16, slot := 3, constantValue := 0 }]
  methods := #[]
  instanceTypes := #[(.object "java/util/Set"), (.object "java/util/Collection"), (.array (.object "java/lang/Object")), .int]
  staticTypes := #[]
  resolved := Array.replicate 149 none
  statics := none }

def pool14 : Array CpInfo := pool [(6, .class_ 8), (1, u "java/lang/Object"), (0, u "<init>"), (0, u "()V"), (1, .class_ 14), (1, u "java/lang/StringUTF16"), (31, u "$assertionsDisabled"), (0, u "Z"), (13, u "HI_BYTE_SHIFT"), (0, u "I"), (2, u "LO_BYTE_SHIFT"), (49, .methodref 12 116), (0, .nameAndType 117 118), (0, u "compress"), (0, u "([CI[BII)I"), (3, u "([CII)[B"), (138, u "coderFromArrayLen"), (0, u "([BI)B"), (106, .class_ 371), (1, u "java/lang/StringUTF16$LinesSpliterator"), (58, u "MAX_LENGTH"), (196, .class_ 628), (0, u "java/lang/StringUTF16$CodePointsSpliterator"), (0, .class_ 630), (0, u "java/lang/StringUTF16$CharsSpliterator")] 4

def k14m0 : Method := { name := "<init>", desc := "()V", sig := { parameters := [], returnType := none }, accessFlags := 0, code := none }
def k14c1 : Code := { maxStack := 2, maxLocals := 2, code := jdk_52_method_15_code, exceptionTable := #[], attributes := #[] }
def k14m1 : Method := { name := "coderFromArrayLen", desc := "([BI)B", sig := { parameters := [(.array .byte), .int], returnType := some .byte }, accessFlags := 8, code := some k14c1 }
def k14c2 : Code := { maxStack := 5, maxLocals := 6, code := jdk_52_method_16_code, exceptionTable := #[], attributes := #[] }
def k14m2 : Method := { name := "compress", desc := "([CII)[B", sig := { parameters := [(.array .char), .int, .int], returnType := some (.array .byte) }, accessFlags := 9, code := some k14c2 }
def k14c3 : Code := { maxStack := 3, maxLocals := 7, code := jdk_52_method_21_code, exceptionTable := #[], attributes := #[] }
def k14m3 : Method := { name := "compress", desc := "([CI[BII)I", sig := { parameters := [(.array .char), .int, (.array .byte), .int, .int], returnType := some .int }, accessFlags := 9, code := some k14c3 }
/-- java/lang/StringUTF16 -/
def k14 : Class := { plain "java/lang/StringUTF16" (some 0) with
  accessFlags := 48
  interfaces := #[]
  cf := some (fileOf pool14 12 #[.nestMembers #[627, 629, 369]] #[{ accessFlags := 0, nameIndex := 9, descriptorIndex := 10, attributes := #[] }, { accessFlags := 8, nameIndex := 261, descriptorIndex := 262, attributes := #[] }, { accessFlags := 9, nameIndex := 117, descriptorIndex := 122, attributes := #[] }, { accessFlags := 9, nameIndex := 117, descriptorIndex := 118, attributes := #[] }] 48 6 #[] #[{ accessFlags := 26, nameIndex := 61, descriptorIndex := 62, attributes := #[] }, { accessFlags := 26, nameIndex := 65, descriptorIndex := 62, attributes := #[] }, { accessFlags := 24, nameIndex := 430, descriptorIndex := 62, attributes := #[] }, { accessFlags := 4120, nameIndex := 46, descriptorIndex := 47, attributes := #[] }])
  fields := #[{ name := "HI_BYTE_SHIFT", type := .int, accessFlags := 26, slot := 0, constantValue := 0 }, { name := "LO_BYTE_SHIFT", type := .int, accessFlags := 26, slot := 1, constantValue := 0 }, { name := "MAX_LENGTH", type := .int, accessFlags := 24, slot := 2, constantValue := 0 }, { name := "$assertionsDisabled", type := .boolean, accessFlags := 4120, slot := 3, constantValue := 0 }]
  methods := #[k14m0, k14m1, k14m2, k14m3]
  instanceTypes := #[]
  staticTypes := #[.int, .int, .int, .boolean]
  resolved := Array.replicate 635 none
  statics := none }

def pool15 : Array CpInfo := pool [(4, .class_ 6), (1, u "java/lang/Object"), (0, u "<init>"), (0, u "()V"), (5, .class_ 16), (1, u "java/lang/StringLatin1"), (104, u "$assertionsDisabled"), (0, u "Z"), (98, .class_ 223), (1, u "java/lang/StringLatin1$LinesSpliterator"), (166, .class_ 391), (0, u "java/lang/StringLatin1$CharsSpliterator")] 3

def k15m0 : Method := { name := "<init>", desc := "()V", sig := { parameters := [], returnType := none }, accessFlags := 0, code := none }
/-- java/lang/StringLatin1 -/
def k15 : Class := { plain "java/lang/StringLatin1" (some 0) with
  accessFlags := 48
  interfaces := #[]
  cf := some (fileOf pool15 14 #[.nestMembers #[390, 221]] #[{ accessFlags := 0, nameIndex := 7, descriptorIndex := 8, attributes := #[] }] 48 4 #[] #[{ accessFlags := 4120, nameIndex := 121, descriptorIndex := 122, attributes := #[] }])
  fields := #[{ name := "$assertionsDisabled", type := .boolean, accessFlags := 4120, slot := 0, constantValue := 0 }]
  methods := #[k15m0]
  instanceTypes := #[]
  staticTypes := #[.boolean]
  resolved := Array.replicate 395 none
  statics := none }

def pool16 : Array CpInfo := pool [(2, .class_ 4), (1, u "java/lang/Object"), (0, u "<init>"), (0, u "()V"), (17, .class_ 26), (1, u "jdk/internal/util/Preconditions"), (28, .class_ 56), (0, u "jdk/internal/util/Preconditions$4"), (57, .class_ 115), (0, u "jdk/internal/util/Preconditions$1"), (7, u "SIOOBE_FORMATTER"), (0, u "Ljava/util/function/BiFunction;"), (0, .class_ 126), (0, u "jdk/internal/util/Preconditions$2"), (3, u "AIOOBE_FORMATTER"), (0, .class_ 132), (0, u "jdk/internal/util/Preconditions$3"), (3, u "IOOBE_FORMATTER")] 57

def k16m0 : Method := { name := "<init>", desc := "()V", sig := { parameters := [], returnType := none }, accessFlags := 1, code := none }
/-- jdk/internal/util/Preconditions -/
def k16 : Class := { plain "jdk/internal/util/Preconditions" (some 0) with
  accessFlags := 33
  interfaces := #[]
  cf := some (fileOf pool16 24 #[.nestMembers #[55, 131, 125, 114]] #[{ accessFlags := 1, nameIndex := 5, descriptorIndex := 6, attributes := #[] }] 33 2 #[] #[{ accessFlags := 25, nameIndex := 123, descriptorIndex := 124, attributes := #[] }, { accessFlags := 25, nameIndex := 130, descriptorIndex := 124, attributes := #[] }, { accessFlags := 25, nameIndex := 136, descriptorIndex := 124, attributes := #[] }])
  fields := #[{ name := "SIOOBE_FORMATTER", type := (.object "java/util/function/BiFunction"), accessFlags := 25, slot := 0, constantValue := 0 }, { name := "AIOOBE_FORMATTER", type := (.object "java/util/function/BiFunction"), accessFlags := 25, slot := 1, constantValue := 0 }, { name := "IOOBE_FORMATTER", type := (.object "java/util/function/BiFunction"), accessFlags := 25, slot := 2, constantValue := 0 }]
  methods := #[k16m0]
  instanceTypes := #[]
  staticTypes := #[(.object "java/util/function/BiFunction"), (.object "java/util/function/BiFunction"), (.object "java/util/function/BiFunction")]
  resolved := Array.replicate 194 none
  statics := some 3 }

def pool17 : Array CpInfo := pool [(9, u "<init>"), (6, .class_ 18), (1, u "java/lang/Object"), (0, u "()V"), (1, .class_ 23), (1, u "jdk/internal/util/ArraysSupport"), (0, u "LOG2_ARRAY_LONG_INDEX_SCALE"), (0, u "I"), (2, u "U"), (0, u "Ljdk/internal/misc/Unsafe;"), (8, u "BIG_ENDIAN"), (0, u "Z"), (8, u "LOG2_BYTE_BIT_SIZE"), (4, u "LOG2_ARRAY_INT_INDEX_SCALE"), (54, u "JLA"), (0, u "Ljdk/internal/access/JavaLangAccess;"), (11, u "LOG2_ARRAY_BOOLEAN_INDEX_SCALE"), (9, u "LOG2_ARRAY_BYTE_INDEX_SCALE"), (5, u "LOG2_ARRAY_CHAR_INDEX_SCALE"), (5, u "LOG2_ARRAY_SHORT_INDEX_SCALE"), (18, u "LOG2_ARRAY_FLOAT_INDEX_SCALE"), (24, u "LOG2_ARRAY_DOUBLE_INDEX_SCALE"), (89, u "T_BOOLEAN"), (2, u "T_CHAR"), (1, u "T_FLOAT"), (1, u "T_DOUBLE"), (1, u "T_BYTE"), (1, u "T_SHORT"), (1, u "T_INT"), (1, u "T_LONG"), (1, u "SOFT_MAX_ARRAY_LENGTH")] 83

def k17m0 : Method := { name := "<init>", desc := "()V", sig := { parameters := [], returnType := none }, accessFlags := 2, code := none }
/-- jdk/internal/util/ArraysSupport -/
def k17 : Class := { plain "jdk/internal/util/ArraysSupport" (some 0) with
  accessFlags := 33
  interfaces := #[]
  cf := some (fileOf pool17 21 #[] #[{ accessFlags := 2, nameIndex := 9, descriptorIndex := 19, attributes := #[] }] 33 16 #[] #[{ accessFlags := 24, nameIndex := 28, descriptorIndex := 29, attributes := #[] }, { accessFlags := 26, nameIndex := 38, descriptorIndex := 39, attributes := #[] }, { accessFlags := 25, nameIndex := 121, descriptorIndex := 25, attributes := #[] }, { accessFlags := 25, nameIndex := 131, descriptorIndex := 25, attributes := #[] }, { accessFlags := 25, nameIndex := 137, descriptorIndex := 25, attributes := #[] }, { accessFlags := 25, nameIndex := 143, descriptorIndex := 25, attributes := #[] }, { accessFlags := 25, nameIndex := 53, descriptorIndex := 25, attributes := #[] }, { accessFlags := 25, nameIndex := 24, descriptorIndex := 25, attributes := #[] }, { accessFlags := 25, nameIndex := 162, descriptorIndex := 25, attributes := #[] }, { accessFlags := 25, nameIndex := 187, descriptorIndex := 25, attributes := #[] }, { accessFlags := 26, nameIndex := 48, descriptorIndex := 25, attributes := #[] }, { accessFlags := 25, nameIndex := 277, descriptorIndex := 25, attributes := #[] }, { accessFlags := 25, nameIndex := 280, descriptorIndex := 25, attributes := #[] }, { accessFlags := 25, nameIndex := 282, descriptorIndex := 25, attributes := #[] }, { accessFlags := 25, nameIndex := 284, descriptorIndex := 25, attributes := #[] }, { accessFlags := 25, nameIndex := 286, descriptorIndex := 25, attributes := #[] }, { accessFlags := 25, nameIndex := 288, descriptorIndex := 25, attributes := #[] }, { accessFlags := 25, nameIndex := 290, descriptorIndex := 25, attributes := #[] }, { accessFlags := 25, nameIndex := 292, descriptorIndex := 25, attributes := #[] }, { accessFlags := 26, nameIndex := 108, descriptorIndex := 109, attributes := #[] }, { accessFlags := 25, nameIndex := 294, descriptorIndex := 25, attributes := #[] }])
  fields := #[{ name := "U", type := (.object "jdk/internal/misc/Unsafe"), accessFlags := 24, slot := 0, constantValue := 0 }, { name := "BIG_ENDIAN", type := .boolean, accessFlags := 26, slot := 1, constantValue := 0 }, { name := "LOG2_ARRAY_BOOLEAN_INDEX_SCALE", type := .int, accessFlags := 25, slot := 2, constantValue := 0 }, { name := "LOG2_ARRAY_BYTE_INDEX_SCALE", type := .int, accessFlags := 25, slot := 3, constantValue := 0 }, { name := "LOG2_ARRAY_CHAR_INDEX_SCALE", type := .int, accessFlags := 25, slot := 4, constantValue := 0 }, { name := "LOG2_ARRAY_SHORT_INDEX_SCALE", type := .int, accessFlags := 25, slot := 5, constantValue := 0 }, { name := "LOG2_ARRAY_INT_INDEX_SCALE", type := .int, accessFlags := 25, slot := 6, constantValue := 0 }, { name := "LOG2_ARRAY_LONG_INDEX_SCALE", type := .int, accessFlags := 25, slot := 7, constantValue := 0 }, { name := "LOG2_ARRAY_FLOAT_INDEX_SCALE", type := .int, accessFlags := 25, slot := 8, constantValue := 0 }, { name := "LOG2_ARRAY_DOUBLE_INDEX_SCALE", type := .int, accessFlags := 25, slot := 9, constantValue := 0 }, { name := "LOG2_BYTE_BIT_SIZE", type := .int, accessFlags := 26, slot := 10, constantValue := 0 }, { name := "T_BOOLEAN", type := .int, accessFlags := 25, slot := 11, constantValue := 0 }, { name := "T_CHAR", type := .int, accessFlags := 25, slot := 12, constantValue := 0 }, { name := "T_FLOAT", type := .int, accessFlags := 25, slot := 13, constantValue := 0 }, { name := "T_DOUBLE", type := .int, accessFlags := 25, slot := 14, constantValue := 0 }, { name := "T_BYTE", type := .int, accessFlags := 25, slot := 15, constantValue := 0 }, { name := "T_SHORT", type := .int, accessFlags := 25, slot := 16, constantValue := 0 }, { name := "T_INT", type := .int, accessFlags := 25, slot := 17, constantValue := 0 }, { name := "T_LONG", type := .int, accessFlags := 25, slot := 18, constantValue := 0 }, { name := "JLA", type := (.object "jdk/internal/access/JavaLangAccess"), accessFlags := 26, slot := 19, constantValue := 0 }, { name := "SOFT_MAX_ARRAY_LENGTH", type := .int, accessFlags := 25, slot := 20, constantValue := 0 }]
  methods := #[k17m0]
  instanceTypes := #[]
  staticTypes := #[(.object "jdk/internal/misc/Unsafe"), .boolean, .int, .int, .int, .int, .int, .int, .int, .int, .int, .int, .int, .int, .int, .int, .int, .int, .int, (.object "jdk/internal/access/JavaLangAccess"), .int]
  resolved := Array.replicate 378 none
  statics := none }

def pool18 : Array CpInfo := pool [(1, u "java/lang/Cloneable"), (0, .class_ 1), (0, u "java/lang/Object"), (0, .class_ 3)] 3

/-- java/lang/Cloneable -/
def k18 : Class := { plain "java/lang/Cloneable" (some 0) with
  accessFlags := 1537
  interfaces := #[]
  cf := some (fileOf pool18 2 #[] #[] 1537 4 #[] #[])
  fields := #[]
  methods := #[]
  instanceTypes := #[]
  staticTypes := #[]
  resolved := Array.replicate 8 none
  statics := none }

/-- the primitive byte -/
def k19 : Class := { plain "byte" none with kind := .primitive 'B', accessFlags := 0x411 }
/-- [B -/
def k20 : Class := { plain "[B" (some 0) with kind := .array 19 .byte, interfaces := #[18, 2], accessFlags := 1041 }

/-- the primitive char -/
def k21 : Class := { plain "char" none with kind := .primitive 'C', accessFlags := 0x411 }
/-- [C -/
def k22 : Class := { plain "[C" (some 0) with kind := .array 21 .char, interfaces := #[18, 2], accessFlags := 1041 }

/-- the primitive int -/
def k23 : Class := { plain "int" none with kind := .primitive 'I', accessFlags := 0x411 }
/-- [I -/
def k24 : Class := { plain "[I" (some 0) with kind := .array 23 .int, interfaces := #[18, 2], accessFlags := 1041 }

/-- [Ljava/lang/Object; -/
def k25 : Class := { plain "[Ljava/lang/Object;" (some 0) with kind := .array 0 (.object "java/lang/Object"), interfaces := #[18, 2], accessFlags := 1041 }

def heap : Heap := #[{ cls := 7, slots := #[.long 0, .int 1, .null, .int 0, .null, .int 0, .int 0], vm := .statics 7 },
  { cls := 8, slots := #[.ref 5, .null], vm := .statics 8 },
  { cls := 10, slots := #[.long 0, .int 0, .null, .null, .null, .null, .null, .ref 6, .int 0, .int 0], vm := .statics 10 },
  { cls := 16, slots := #[.null, .null, .null], vm := .statics 16 },
  { cls := 25, slots := #[], vm := .none },
  { cls := 8, slots := #[.null, .int 1, .int 0], vm := .none },
  { cls := 13, slots := #[.null, .null, .ref 4, .int 0], vm := .none }]
def classes : Array Class := #[k0, k1, k2, k3, k4, k5, k6, k7, k8, k9, k10, k11, k12, k13, k14, k15, k16, k17, k18, k19, k20, k21, k22, k23, k24, k25]
def interned : List (Array UInt16 × Addr) := []
def slotsUsed : Nat := 29
def theMethod : MethodId := ⟨1, 1⟩
def args0 : Array Value := #[.int 9, .int 65, .int 66, .int 67]
def aboutOver (below : List Frame) : State where
  vm := { classes := classes, interned := interned.toArray }
  heap := heap
  slotsUsed := slotsUsed
  threads := #[{ frames := .invoking theMethod args0 :: below }]
def below0 : List Frame := [.native { method := ⟨0, 0⟩, args := #[] }]
def about1 : State := aboutOver below0
def p0 : Program := .bare "" "" ""
def e0 : Env := launch0.env 0 0 0
theorem w_frames : about1.frames = Frame.invoking theMethod args0 :: below0 := rfl
set_option maxRecDepth 65536 in
theorem w_args : argsFit about1.vm theMethod args0 = true := by decide +kernel
set_option maxRecDepth 65536 in
theorem w_heap : heapFits about1 = true := by decide +kernel
set_option maxRecDepth 65536 in
theorem w_runnable : about1.curStatus? = some .runnable := by decide +kernel
set_option maxRecDepth 65536 in
theorem w_alone : about1.alone = true := by decide +kernel
set_option maxRecDepth 65536 in
theorem w_named : about1.methodNamed? x = some theMethod := by decide +kernel
set_option maxRecDepth 65536 in
theorem w_hears : about1.hears theMethod below0 = true := by decide +kernel
set_option maxRecDepth 65536 in
theorem w_ripe : about1.ripe theMethod args0 below0 = true := by decide +kernel
theorem w_running : about1.status = .running := rfl
set_option maxRecDepth 65536 in
theorem w_room : about1.hasRoom e0.platform room_1 = true :=
  launch0.hasRoom_least _ room_1 (by decide +kernel) (by decide +kernel) (by decide +kernel) (by decide +kernel) (by decide +kernel) (by decide +kernel)
theorem allAtoms_all (ts : List Jvm.Cond) (a : Array Jvm.Value) (st : Jvm.State) : (allAtoms ts).before a st = ts.all (fun c => c.before a st) := by
  induction ts with
  | nil => rfl
  | cons c t ih =>
    show (Jvm.Cond.and c (allAtoms t)).before a st = _
    rw [Jvm.Cond.before_and, ih, List.all_cons]
def words1 : List Jvm.Cond := Jvm.Cond.code x code maxLocals ret :: tables_1
/-- a 'code' word, met by the world's own term for the bytes: nothing is compared byte by byte -/
theorem code_word {y : MethodName} {bytes : ByteArray} {mx : Nat} {rt : Option FieldType} {a : Array Value} {s : State} {m : MethodId} {meth : Method} {c : Code} (h1 : s.methodNamed? y = some m) (h2 : s.vm.method? m = some meth) (h3 : meth.code = some c) (h4 : c.code = bytes)
    (h5 : (c.maxLocals == mx && c.exceptionTable.isEmpty && decide (c.maxStack ≤ mostOperands) && decide (meth.sig.returnType = rt) && !meth.locks && decide (parseMethodDescriptor y.desc = some meth.sig)) = true) : (Jvm.Cond.code y bytes mx rt).before a s = true := by
  simp only [Bool.and_eq_true, beq_iff_eq, Bool.not_eq_true', decide_eq_true_eq] at h5
  obtain ⟨⟨⟨⟨⟨g1, g2⟩, g3⟩, g4⟩, g5⟩, g6⟩ := h5
  simp [Cond.before, Cond.holds, Cond.value, h1, h2, h3, h4, g1, g2, g3, g4, g5, g6]
def isCode : Jvm.Cond → Bool
  | .code _ _ _ _ => true
  | _ => false
theorem all_split {L : List Jvm.Cond} {P : Jvm.Cond → Bool} (h1 : L.all (fun c => isCode c || P c) = true) (h2 : ∀ c ∈ L.filter isCode, P c = true) : L.all P = true := by
  refine List.all_eq_true.mpr fun c hc => ?_
  have h := List.all_eq_true.mp h1 c hc
  rcases Bool.eq_false_or_eq_true (isCode c) with hi | hi
  · exact h2 c (List.mem_filter.mpr ⟨hc, hi⟩)
  · simpa [hi] using h
set_option maxRecDepth 65536 in
theorem w_c0 : (Jvm.Cond.code x code maxLocals ret).before args0 about1 = true := code_word (m := ⟨1, 1⟩) (meth := k1m1) (c := k1c1) (by decide +kernel) rfl rfl rfl (by decide +kernel)
set_option maxRecDepth 65536 in
theorem w_c1 : (Jvm.Cond.code ({ cls := "com/example/lean_pubsub/leanpubsub/auth/UsersAuthenticatedNamePinLaw", name := "draw", desc := "(IIII)Ljava/lang/String;" } : Jvm.MethodName) method_3_code (5 : Nat) (Option.some (Jvm.ClassFile.FieldType.object "java/lang/String"))).before args0 about1 = true := code_word (m := ⟨1, 2⟩) (meth := k1m2) (c := k1c2) (by decide +kernel) rfl rfl rfl (by decide +kernel)
set_option maxRecDepth 65536 in
theorem w_c2 : (Jvm.Cond.code ({ cls := "java/lang/String", name := "<init>", desc := "([C)V" } : Jvm.MethodName) jdk_42_method_3_code (2 : Nat) (Option.none : Option Jvm.ClassFile.FieldType)).before args0 about1 = true := code_word (m := ⟨7, 1⟩) (meth := k7m1) (c := k7c1) (by decide +kernel) rfl rfl rfl (by decide +kernel)
set_option maxRecDepth 65536 in
theorem w_c3 : (Jvm.Cond.code ({ cls := "java/lang/String", name := "<init>", desc := "([CIILjava/lang/Void;)V" } : Jvm.MethodName) jdk_42_method_149_code (6 : Nat) (Option.none : Option Jvm.ClassFile.FieldType)).before args0 about1 = true := code_word (m := ⟨7, 3⟩) (meth := k7m3) (c := k7c3) (by decide +kernel) rfl rfl rfl (by decide +kernel)
set_option maxRecDepth 65536 in
theorem w_c4 : (Jvm.Cond.code ({ cls := "java/lang/Object", name := "<init>", desc := "()V" } : Jvm.MethodName) object_method_1_code (1 : Nat) (Option.none : Option Jvm.ClassFile.FieldType)).before args0 about1 = true := code_word (m := ⟨0, 0⟩) (meth := k0m0) (c := k0c0) (by decide +kernel) rfl rfl rfl (by decide +kernel)
set_option maxRecDepth 65536 in
theorem w_c5 : (Jvm.Cond.code ({ cls := "java/util/Map", name := "of", desc := "()Ljava/util/Map;" } : Jvm.MethodName) jdk_72_method_26_code (0 : Nat) (Option.some (Jvm.ClassFile.FieldType.object "java/util/Map"))).before args0 about1 = true := code_word (m := ⟨9, 0⟩) (meth := k9m0) (c := k9c0) (by decide +kernel) rfl rfl rfl (by decide +kernel)
set_option maxRecDepth 65536 in
theorem w_c6 : (Jvm.Cond.code ({ cls := "com/example/lean_pubsub/leanpubsub/auth/Users", name := "<init>", desc := "(Ljava/util/Map;Z)V" } : Jvm.MethodName) prog_14_method_1_code (3 : Nat) (Option.none : Option Jvm.ClassFile.FieldType)).before args0 about1 = true := code_word (m := ⟨8, 0⟩) (meth := k8m0) (c := k8c0) (by decide +kernel) rfl rfl rfl (by decide +kernel)
set_option maxRecDepth 65536 in
theorem w_c7 : (Jvm.Cond.code ({ cls := "java/util/Map", name := "copyOf", desc := "(Ljava/util/Map;)Ljava/util/Map;" } : Jvm.MethodName) jdk_72_method_39_code (1 : Nat) (Option.some (Jvm.ClassFile.FieldType.object "java/util/Map"))).before args0 about1 = true := code_word (m := ⟨9, 1⟩) (meth := k9m1) (c := k9c1) (by decide +kernel) rfl rfl rfl (by decide +kernel)
set_option maxRecDepth 65536 in
theorem w_c8 : (Jvm.Cond.code ({ cls := "com/example/lean_pubsub/leanpubsub/auth/Users", name := "<init>", desc := "(Ljava/util/Map;ZZ)V" } : Jvm.MethodName) prog_14_method_2_code (4 : Nat) (Option.none : Option Jvm.ClassFile.FieldType)).before args0 about1 = true := code_word (m := ⟨8, 1⟩) (meth := k8m1) (c := k8c1) (by decide +kernel) rfl rfl rfl (by decide +kernel)
set_option maxRecDepth 65536 in
theorem w_c9 : (Jvm.Cond.code ({ cls := "com/example/lean_pubsub/leanpubsub/auth/Users", name := "authenticatedName", desc := "(Ljava/lang/String;)Ljava/lang/String;" } : Jvm.MethodName) prog_14_method_4_code (2 : Nat) (Option.some (Jvm.ClassFile.FieldType.object "java/lang/String"))).before args0 about1 = true := code_word (m := ⟨8, 2⟩) (meth := k8m2) (c := k8c2) (by decide +kernel) rfl rfl rfl (by decide +kernel)
set_option maxRecDepth 65536 in
theorem w_c10 : (Jvm.Cond.code ({ cls := "java/lang/String", name := "equals", desc := "(Ljava/lang/Object;)Z" } : Jvm.MethodName) jdk_42_method_66_code (3 : Nat) (Option.some Jvm.ClassFile.FieldType.boolean)).before args0 about1 = true := code_word (m := ⟨7, 2⟩) (meth := k7m2) (c := k7c2) (by decide +kernel) rfl rfl rfl (by decide +kernel)
set_option maxRecDepth 65536 in
theorem w_c11 : (Jvm.Cond.code ({ cls := "java/lang/StringUTF16", name := "compress", desc := "([CII)[B" } : Jvm.MethodName) jdk_52_method_16_code (6 : Nat) (Option.some (Jvm.ClassFile.FieldType.array Jvm.ClassFile.FieldType.byte))).before args0 about1 = true := code_word (m := ⟨14, 2⟩) (meth := k14m2) (c := k14c2) (by decide +kernel) rfl rfl rfl (by decide +kernel)
set_option maxRecDepth 65536 in
theorem w_c12 : (Jvm.Cond.code ({ cls := "java/lang/StringUTF16", name := "compress", desc := "([CI[BII)I" } : Jvm.MethodName) jdk_52_method_21_code (7 : Nat) (Option.some Jvm.ClassFile.FieldType.int)).before args0 about1 = true := code_word (m := ⟨14, 3⟩) (meth := k14m3) (c := k14c3) (by decide +kernel) rfl rfl rfl (by decide +kernel)
set_option maxRecDepth 65536 in
theorem w_c13 : (Jvm.Cond.code ({ cls := "java/lang/StringUTF16", name := "coderFromArrayLen", desc := "([BI)B" } : Jvm.MethodName) jdk_52_method_15_code (2 : Nat) (Option.some Jvm.ClassFile.FieldType.byte)).before args0 about1 = true := code_word (m := ⟨14, 1⟩) (meth := k14m1) (c := k14c1) (by decide +kernel) rfl rfl rfl (by decide +kernel)
def codes1 : List Jvm.Cond := [Jvm.Cond.code x code maxLocals ret, Jvm.Cond.code ({ cls := "com/example/lean_pubsub/leanpubsub/auth/UsersAuthenticatedNamePinLaw", name := "draw", desc := "(IIII)Ljava/lang/String;" } : Jvm.MethodName) method_3_code (5 : Nat) (Option.some (Jvm.ClassFile.FieldType.object "java/lang/String")), Jvm.Cond.code ({ cls := "java/lang/String", name := "<init>", desc := "([C)V" } : Jvm.MethodName) jdk_42_method_3_code (2 : Nat) (Option.none : Option Jvm.ClassFile.FieldType), Jvm.Cond.code ({ cls := "java/lang/String", name := "<init>", desc := "([CIILjava/lang/Void;)V" } : Jvm.MethodName) jdk_42_method_149_code (6 : Nat) (Option.none : Option Jvm.ClassFile.FieldType), Jvm.Cond.code ({ cls := "java/lang/Object", name := "<init>", desc := "()V" } : Jvm.MethodName) object_method_1_code (1 : Nat) (Option.none : Option Jvm.ClassFile.FieldType), Jvm.Cond.code ({ cls := "java/util/Map", name := "of", desc := "()Ljava/util/Map;" } : Jvm.MethodName) jdk_72_method_26_code (0 : Nat) (Option.some (Jvm.ClassFile.FieldType.object "java/util/Map")), Jvm.Cond.code ({ cls := "com/example/lean_pubsub/leanpubsub/auth/Users", name := "<init>", desc := "(Ljava/util/Map;Z)V" } : Jvm.MethodName) prog_14_method_1_code (3 : Nat) (Option.none : Option Jvm.ClassFile.FieldType), Jvm.Cond.code ({ cls := "java/util/Map", name := "copyOf", desc := "(Ljava/util/Map;)Ljava/util/Map;" } : Jvm.MethodName) jdk_72_method_39_code (1 : Nat) (Option.some (Jvm.ClassFile.FieldType.object "java/util/Map")), Jvm.Cond.code ({ cls := "com/example/lean_pubsub/leanpubsub/auth/Users", name := "<init>", desc := "(Ljava/util/Map;ZZ)V" } : Jvm.MethodName) prog_14_method_2_code (4 : Nat) (Option.none : Option Jvm.ClassFile.FieldType), Jvm.Cond.code ({ cls := "com/example/lean_pubsub/leanpubsub/auth/Users", name := "authenticatedName", desc := "(Ljava/lang/String;)Ljava/lang/String;" } : Jvm.MethodName) prog_14_method_4_code (2 : Nat) (Option.some (Jvm.ClassFile.FieldType.object "java/lang/String")), Jvm.Cond.code ({ cls := "java/lang/String", name := "equals", desc := "(Ljava/lang/Object;)Z" } : Jvm.MethodName) jdk_42_method_66_code (3 : Nat) (Option.some Jvm.ClassFile.FieldType.boolean), Jvm.Cond.code ({ cls := "java/lang/StringUTF16", name := "compress", desc := "([CII)[B" } : Jvm.MethodName) jdk_52_method_16_code (6 : Nat) (Option.some (Jvm.ClassFile.FieldType.array Jvm.ClassFile.FieldType.byte)), Jvm.Cond.code ({ cls := "java/lang/StringUTF16", name := "compress", desc := "([CI[BII)I" } : Jvm.MethodName) jdk_52_method_21_code (7 : Nat) (Option.some Jvm.ClassFile.FieldType.int), Jvm.Cond.code ({ cls := "java/lang/StringUTF16", name := "coderFromArrayLen", desc := "([BI)B" } : Jvm.MethodName) jdk_52_method_15_code (2 : Nat) (Option.some Jvm.ClassFile.FieldType.byte)]
set_option maxRecDepth 65536 in
theorem codes_eq : words1.filter isCode = codes1 := rfl
theorem w_codes : ∀ c ∈ words1.filter isCode, c.before args0 about1 = true := by
  rw [codes_eq]
  intro c hc
  simp only [codes1, List.mem_cons, List.not_mem_nil, or_false] at hc
  rcases hc with rfl | rfl | rfl | rfl | rfl | rfl | rfl | rfl | rfl | rfl | rfl | rfl | rfl | rfl
  · exact w_c0
  · exact w_c1
  · exact w_c2
  · exact w_c3
  · exact w_c4
  · exact w_c5
  · exact w_c6
  · exact w_c7
  · exact w_c8
  · exact w_c9
  · exact w_c10
  · exact w_c11
  · exact w_c12
  · exact w_c13
set_option maxRecDepth 65536 in
theorem w_t1 : (words1.take 24).all (fun c => isCode c || c.before args0 about1) = true := by decide +kernel
set_option maxRecDepth 65536 in
theorem w_t2 : ((words1.drop 24).take 24).all (fun c => isCode c || c.before args0 about1) = true := by decide +kernel
set_option maxRecDepth 65536 in
theorem w_t3 : (((words1.drop 24).drop 24).take 24).all (fun c => isCode c || c.before args0 about1) = true := by decide +kernel
set_option maxRecDepth 65536 in
theorem w_t4 : (((words1.drop 24).drop 24).drop 24).all (fun c => isCode c || c.before args0 about1) = true := by decide +kernel
theorem w_tables : (allAtoms (Jvm.Cond.code x code maxLocals ret :: tables_1)).before args0 about1 = true := by
  rw [allAtoms_all]
  show words1.all (fun c => c.before args0 about1) = true
  refine all_split ?_ w_codes
  rw [← List.take_append_drop 24 words1, List.all_append, w_t1, ← List.take_append_drop 24 (words1.drop 24), List.all_append, w_t2, ← List.take_append_drop 24 ((words1.drop 24).drop 24), List.all_append, w_t3, w_t4]
  rfl
set_option maxRecDepth 65536 in
theorem w_rest : rest_1_c.before args0 about1 = true := by decide +kernel
set_option maxRecDepth 65536 in
theorem w_case : (Jvm.Cond.and given_1 narrow_1).before args0 about1 = true := by decide +kernel
set_option maxRecDepth 65536 in
theorem w_consts : constsHeld consts_1 about1 := Jvm.Lit.constsHeldB_iff.mp (by decide +kernel)
theorem w_applies : (headSpec (Jvm.Cond.code x code maxLocals ret :: tables_1) room_1).applies x e0.platform about1 = true :=
  (Spec.applies_iff w_frames).mpr ⟨w_running, w_runnable, w_alone, w_named, w_hears, w_ripe, w_room, w_tables⟩
theorem atStart : AtStart classFile x code maxLocals ret World_1 tables_1 room_1 Calls_1 rest_1 Pre_1 launch0 p0 e0 about1 theMethod args0 below0 :=
  ⟨lists_1, trivial, launch0.admits_env _ _ _, launch0.least_env, fairChoices_fair.cas, fairChoices_fair.clock, w_frames, w_args, w_heap, w_applies, ⟨w_consts, trivial⟩, w_rest, w_case⟩
end start1
theorem witness_1 : WitnessClaimed_1 := ⟨start1.p0, start1.e0, start1.about1, start1.theMethod, start1.args0, start1.below0, start1.atStart⟩
end Jvm.Pilot.@@N@@
