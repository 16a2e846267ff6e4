import JvmDerived
import JvmDerived.Pilot.@@N@@Statement
import JvmDerived.Pilot.@@N@@Code
set_option linter.unusedVariables false
set_option linter.unusedSimpArgs false
/- laws to paste: Road.backV, Road.eqW, Road.codOf (cut by pick.py; bodies as the Statement names them) -/
namespace Jvm.Pilot.@@N@@
namespace StrChars
open Jvm Sem ClassFile Op Lib Jvm.Stand Jvm.Free.XT Jvm.Free.ALB Jvm.Free.JM Jvm.Free
open Jvm.Lib.Cold (StaticIs)
/-- a char array whose places are chars -/
def Ch (a : Addr) (A : Cell) (U : State) : Prop := Arr .char a A U ∧ Typed .char A
theorem Ch.mv {a : Addr} {A : Cell} {U U' : State} (h : Ch a A U) (hal : U.vm.Alike U'.vm) (hh : U'.heap = U.heap) : Ch a A U' := ⟨h.1.mv hal hh, h.2⟩
theorem Ch.keep {a : Addr} {A : Cell} {U U' : State} (h : Ch a A U) (hal : U.vm.Alike U'.vm) (hk : U'.heap[a]? = some A) : Ch a A U' := ⟨h.1.keep hal hk, h.2⟩
/-- what place i of a char[]'s cell holds -/
def cv (A : Cell) (i : Nat) : Int32 := match A.slots[i]? with | some (.int x) => x | _ => 0
theorem Ch.get {a : Addr} {A : Cell} {U : State} (h : Ch a A U) {i : Nat} (hi : i < A.slots.size) : A.slots[i]? = some (.int (cv A i)) := by
  have e := Array.getElem?_eq_getElem hi
  have f := h.2 i _ e
  unfold cv; rw [e]
  generalize A.slots[i] = v at f
  cases v <;> simp [fits] at f ⊢
/-- the byte that i2b leaves of a char -/
def lo8 (x : Int32) : Int32 := x.toInt8.toInt32
theorem fits_lo8 (y : Int32) : fits .byte (.int (lo8 y)) = true := by
  have h1 := y.toInt8.le_toInt
  have h2 := y.toInt8.toInt_lt
  simp only [lo8, fits, Bool.and_eq_true, decide_eq_true_eq, Int32.le_iff_toInt_le, Int8.toInt_toInt32, show (-128 : Int32).toInt = -128 from by decide, show (127 : Int32).toInt = 127 from by decide]
  omega
/-- A' is A but that each place j of lo .. hi - 1 holds f j -/
def Laid (A A' : Cell) (lo hi : Nat) (f : Nat → Value) : Prop := A'.cls = A.cls ∧ A'.vm = A.vm ∧ A'.slots.size = A.slots.size ∧ ∀ i, A'.slots[i]? = if lo ≤ i ∧ i < hi then some (f i) else A.slots[i]?
theorem Laid.zero (A : Cell) (lo : Nat) (f : Nat → Value) : Laid A A lo (lo + 0) f := ⟨rfl, rfl, rfl, fun i => by rw [if_neg (by omega)]⟩
theorem Laid.step {A Ak : Cell} {lo k : Nat} {f : Nat → Value} {v : Value} (h : Laid A Ak lo k f) (hlo : lo ≤ k) (hk : k < Ak.slots.size) (hv : v = f k) : Laid A (Ak.setSlot k v) lo (k + 1) f := by
  refine ⟨h.1, h.2.1, by simpa [Cell.setSlot] using h.2.2.1, fun i => ?_⟩
  by_cases e : k = i
  · subst e; rw [Cell.slots_setSlot_self v hk, if_pos (by omega), hv]
  · rw [Cell.slots_setSlot_ne v e, h.2.2.2 i]
    by_cases q : lo ≤ i ∧ i < k
    · rw [if_pos q, if_pos (by omega)]
    · rw [if_neg q, if_neg (by omega)]
def U16 : String := "java/lang/StringUTF16"
namespace Cmp5
def yN : MethodName := ⟨"java/lang/StringUTF16", "compress", "([CI[BII)I"⟩
abbrev yB : ByteArray := jdk_52_method_21_code
theorem d0 : decode yB 0 = .ok (.iconst 0, 1) := by decide +kernel
theorem d1 : decode yB 1 = .ok (.istore 5, 2) := by decide +kernel
theorem d3 : decode yB 3 = .ok (.iload 5, 2) := by decide +kernel
theorem d5 : decode yB 5 = .ok (.iload 4, 2) := by decide +kernel
theorem d7 : decode yB 7 = .ok (.if_icmp (.ge) 37, 3) := by decide +kernel
theorem d10 : decode yB 10 = .ok (.aload_n 0, 1) := by decide +kernel
theorem d11 : decode yB 11 = .ok (.iload_n 1, 1) := by decide +kernel
theorem d12 : decode yB 12 = .ok (.caload, 1) := by decide +kernel
theorem d13 : decode yB 13 = .ok (.istore 6, 2) := by decide +kernel
theorem d15 : decode yB 15 = .ok (.iload 6, 2) := by decide +kernel
theorem d17 : decode yB 17 = .ok (.sipush 255, 3) := by decide +kernel
theorem d20 : decode yB 20 = .ok (.if_icmp (.le) 6, 3) := by decide +kernel
theorem d26 : decode yB 26 = .ok (.aload_n 2, 1) := by decide +kernel
theorem d27 : decode yB 27 = .ok (.iload_n 3, 1) := by decide +kernel
theorem d28 : decode yB 28 = .ok (.iload 6, 2) := by decide +kernel
theorem d30 : decode yB 30 = .ok (.i2b, 1) := by decide +kernel
theorem d31 : decode yB 31 = .ok (.bastore, 1) := by decide +kernel
theorem d32 : decode yB 32 = .ok (.iinc 1 1, 3) := by decide +kernel
theorem d35 : decode yB 35 = .ok (.iinc 3 1, 3) := by decide +kernel
theorem d38 : decode yB 38 = .ok (.iinc 5 1, 3) := by decide +kernel
theorem d41 : decode yB 41 = .ok (.goto (-38), 3) := by decide +kernel
theorem d44 : decode yB 44 = .ok (.iload 4, 2) := by decide +kernel
theorem d46 : decode yB 46 = .ok (.ireturn, 1) := by decide +kernel
def site : List Cond := []
def tab : Cond := tabOf yN yB 7 (some .int) site
def P (b : Addr) (A : Cell) (d : Addr) (B : Cell) (o q len : Nat) (args : Array Value) (s : State) : Prop := args = #[.ref b, .int (Int32.ofNat o), .ref d, .int (Int32.ofNat q), .int (Int32.ofNat len)] ∧ Ch b A s ∧ Arr .byte d B s ∧ b ≠ d ∧ o + len ≤ A.slots.size ∧ q + len ≤ B.slots.size ∧ ∀ i, i < len → ¬ 255 < cv A (o + i)
def E (b : Addr) (A : Cell) (d : Addr) (B : Cell) (o q len : Nat) (r : Option Value) (s u : State) : Prop := r = some (.int (Int32.ofNat len)) ∧ ∃ B', Put d B' s u ∧ Laid B B' q (q + len) (fun j => Value.int (lo8 (cv A (o + (j - q)))))
/-- no char of the range above 255: len; the places written hold each char's low byte -/
theorem law (l : Launch) (b : Addr) (A : Cell) (d : Addr) (B : Cell) (o q len : Nat) : Law l yN 5 5 0 0 yB 7 (some .int) site (P b A d B o q len) (E b A d B o q len) (copyLocs d q len) 0 0 := by
  refine Law.of_walk (plainFor_of_name (by decide +kernel)) (by decide +kernel) (by decide +kernel) (by decide) (fun _ _ h => by rw [h.1]; rfl) (fun _ U U' hal hh h => ⟨h.1, h.2.1.mv hal hh, h.2.2.1.mv hal hh, h.2.2.2⟩) (fun r U U' V V' h1 hal h2 h => ⟨h.1, h.2.elim fun B' q => ⟨B', q.1.mv h1 h2, q.2⟩⟩) ?_
  intro p e s m args below meth c s₁ X0 hexec hbytes hml hret hlk hnm hown hh0 W hP
  obtain ⟨rfl, hA, hB, hne, l1, l2, hp⟩ := hP
  have c1 : Steps p.tables e below (s₁.setTop (entryFrame m #[.ref b, .int (Int32.ofNat o), .ref d, .int (Int32.ofNat q), .int (Int32.ofNat len)] 7)) (s₁.setTop (mkF m 0 #[.val (.ref b), .val (.int (Int32.ofNat o)), .val (.ref d), .val (.int (Int32.ofNat q)), .val (.int (Int32.ofNat len)), .unset, .unset] [])) := entry rfl
  have hA0 := hA.1.mv X0.warmed.alike hh0
  have hB0 := hB.mv X0.warmed.alike hh0
  have a31 := hA.1.2.2.2
  have c2 : Steps p.tables e below (s₁.setTop (entryFrame m #[.ref b, .int (Int32.ofNat o), .ref d, .int (Int32.ofNat q), .int (Int32.ofNat len)] 7)) (s₁.setTop (mkF m 3 #[.val (.ref b), .val (.int (Int32.ofNat o)), .val (.ref d), .val (.int (Int32.ofNat q)), .val (.int (Int32.ofNat len)), .val (.int 0), .unset] [])) := c1.trans (by
    refine iconstV X0.here hexec rfl 0 (hb hbytes d0) (by decide) ?_
    refine XS.istore X0.here hexec rfl (hb hbytes d1) rfl rfl ?_
    exact Steps.refl _)
  have loop : ∀ (r i : Nat), i + r = len → ∀ (z : Slot), (z = .unset ∨ ∃ w, z = .val w ∧ w.category = 1) → ∀ (Tl : State) (Bk : Cell), Stand p l e { frames := 0, locals := 0, cells := 0, slots := 0 } s m #[.ref b, .int (Int32.ofNat o), .ref d, .int (Int32.ofNat q), .int (Int32.ofNat len)] below meth c Tl ([] ++ copyLocs d q i) 0 0 → Put d Bk s₁ Tl → Laid B Bk q (q + i) (fun j => Value.int (lo8 (cv A (o + (j - q))))) →
      Steps p.tables e below (s₁.setTop (entryFrame m #[.ref b, .int (Int32.ofNat o), .ref d, .int (Int32.ofNat q), .int (Int32.ofNat len)] 7)) (Tl.setTop (mkF m 3 #[.val (.ref b), .val (.int (Int32.ofNat (o + i))), .val (.ref d), .val (.int (Int32.ofNat (q + i))), .val (.int (Int32.ofNat len)), .val (.int (Int32.ofNat i)), z] [])) → ∃ (T' : State) (B' : Cell) (z' : Slot), Stand p l e { frames := 0, locals := 0, cells := 0, slots := 0 } s m #[.ref b, .int (Int32.ofNat o), .ref d, .int (Int32.ofNat q), .int (Int32.ofNat len)] below meth c T' ([] ++ copyLocs d q len) 0 0 ∧ Put d B' s₁ T' ∧ Laid B B' q (q + len) (fun j => Value.int (lo8 (cv A (o + (j - q))))) ∧
      Steps p.tables e below (s₁.setTop (entryFrame m #[.ref b, .int (Int32.ofNat o), .ref d, .int (Int32.ofNat q), .int (Int32.ofNat len)] 7)) (T'.setTop (mkF m 3 #[.val (.ref b), .val (.int (Int32.ofNat (o + len))), .val (.ref d), .val (.int (Int32.ofNat (q + len))), .val (.int (Int32.ofNat len)), .val (.int (Int32.ofNat len)), z'] [])) := by
    intro r
    induction r with
    | zero =>
      intro i hi z hz Tl Bk Xl pl fl cl
      have hil : i = len := by omega
      rw [hil] at Xl fl cl
      exact ⟨Tl, Bk, z, Xl, pl, fl, cl⟩
    | succ r ih =>
      intro i hi z hz Tl Bk Xl pl fl cl
      have all := X0.warmed.alike.symm.trans Xl.warmed.alike
      have hAl := hA0.keep all (pl.other hne hA0.1)
      have hBk := hB0.like all pl.1 fl.1 fl.2.1 fl.2.2.1
      have hlt : q + i < Bk.slots.size := by rw [fl.2.2.1]; omega
      have c3 : Steps p.tables e below (s₁.setTop (entryFrame m #[.ref b, .int (Int32.ofNat o), .ref d, .int (Int32.ofNat q), .int (Int32.ofNat len)] 7)) (Tl.setTop (mkF m 12 #[.val (.ref b), .val (.int (Int32.ofNat (o + i))), .val (.ref d), .val (.int (Int32.ofNat (q + i))), .val (.int (Int32.ofNat len)), .val (.int (Int32.ofNat i)), z] [.int (Int32.ofNat (o + i)), .ref b])) := cl.trans (by
        refine XS.iload Xl.here hexec rfl (hb hbytes d3) rfl ?_
        refine XS.iload Xl.here hexec rfl (hb hbytes d5) rfl ?_
        refine XS.icmpNo Xl.here hexec rfl (hb hbytes d7) rfl (ii_ge_f (lt32 (by omega) (by omega))) ?_
        refine XS.aloadN Xl.here hexec rfl (hb hbytes d10) rfl rfl ?_
        refine XS.iloadN Xl.here hexec rfl (hb hbytes d11) rfl ?_
        exact Steps.refl _)
      have c4 : Steps p.tables e below (s₁.setTop (entryFrame m #[.ref b, .int (Int32.ofNat o), .ref d, .int (Int32.ofNat q), .int (Int32.ofNat len)] 7)) (Tl.setTop (mkF m 13 #[.val (.ref b), .val (.int (Int32.ofNat (o + i))), .val (.ref d), .val (.int (Int32.ofNat (q + i))), .val (.int (Int32.ofNat len)), .val (.int (Int32.ofNat i)), z] [.int (cv A (o + i))])) := c3.trans (by
        refine Xl.aget hexec hAl rfl (hA.get (i := o + i) (by omega)) rfl rfl (hb hbytes d12) ?_
        exact Steps.refl _)
      have c5 : Steps p.tables e below (s₁.setTop (entryFrame m #[.ref b, .int (Int32.ofNat o), .ref d, .int (Int32.ofNat q), .int (Int32.ofNat len)] 7)) (Tl.setTop (mkF m 15 #[.val (.ref b), .val (.int (Int32.ofNat (o + i))), .val (.ref d), .val (.int (Int32.ofNat (q + i))), .val (.int (Int32.ofNat len)), .val (.int (Int32.ofNat i)), .val (.int (cv A (o + i)))] [])) := c4.trans (by
        refine XS.istoreS Xl.here hexec rfl (hb hbytes d13) rfl rfl hz ?_
        exact Steps.refl _)
      have c6 : Steps p.tables e below (s₁.setTop (entryFrame m #[.ref b, .int (Int32.ofNat o), .ref d, .int (Int32.ofNat q), .int (Int32.ofNat len)] 7)) (Tl.setTop (mkF m 31 #[.val (.ref b), .val (.int (Int32.ofNat (o + i))), .val (.ref d), .val (.int (Int32.ofNat (q + i))), .val (.int (Int32.ofNat len)), .val (.int (Int32.ofNat i)), .val (.int (cv A (o + i)))] [.int (lo8 (cv A (o + i))), .int (Int32.ofNat (q + i)), .ref d])) := c5.trans (by
        refine XS.iload Xl.here hexec rfl (hb hbytes d15) rfl ?_
        refine sipushV Xl.here hexec rfl 255 (hb hbytes d17) (by decide) ?_
        refine XS.icmpYes Xl.here hexec rfl (pc0 := 20) rfl (hb hbytes d20) rfl (ii_le_t (hp i (by omega))) (by decide) rfl ?_
        refine XS.aloadN Xl.here hexec rfl (hb hbytes d26) rfl rfl ?_
        refine XS.iloadN Xl.here hexec rfl (hb hbytes d27) rfl ?_
        refine XS.iload Xl.here hexec rfl (hb hbytes d28) rfl ?_
        refine i2b Xl.here hexec rfl (hb hbytes d30) rfl ?_
        exact Steps.refl _)
      obtain ⟨T7, X7, p7, st7⟩ := Xl.aput hexec hBk rfl hlt rfl (fits_lo8 (cv A (o + i))) (g := (mkF m 31 #[.val (.ref b), .val (.int (Int32.ofNat (o + i))), .val (.ref d), .val (.int (Int32.ofNat (q + i))), .val (.int (Int32.ofNat len)), .val (.int (Int32.ofNat i)), .val (.int (cv A (o + i)))] [.int (lo8 (cv A (o + i))), .int (Int32.ofNat (q + i)), .ref d])) rfl (rest := []) rfl (hb hbytes d31)
      have c8 : Steps p.tables e below (s₁.setTop (entryFrame m #[.ref b, .int (Int32.ofNat o), .ref d, .int (Int32.ofNat q), .int (Int32.ofNat len)] 7)) (T7.setTop (mkF m 32 #[.val (.ref b), .val (.int (Int32.ofNat (o + i))), .val (.ref d), .val (.int (Int32.ofNat (q + i))), .val (.int (Int32.ofNat len)), .val (.int (Int32.ofNat i)), .val (.int (cv A (o + i)))] [])) := c6.trans (st7 _ (Steps.refl _))
      have c9 : Steps p.tables e below (s₁.setTop (entryFrame m #[.ref b, .int (Int32.ofNat o), .ref d, .int (Int32.ofNat q), .int (Int32.ofNat len)] 7)) (T7.setTop (mkF m 3 #[.val (.ref b), .val (.int (Int32.ofNat (o + i) + 1)), .val (.ref d), .val (.int (Int32.ofNat (q + i) + 1)), .val (.int (Int32.ofNat len)), .val (.int (Int32.ofNat i + 1)), .val (.int (cv A (o + i)))] [])) := c8.trans (by
        refine iincV X7.here hexec rfl 1 (hb hbytes d32) (by decide) rfl rfl ?_
        refine iincV X7.here hexec rfl 1 (hb hbytes d35) (by decide) rfl rfl ?_
        refine iincV X7.here hexec rfl 1 (hb hbytes d38) (by decide) rfl rfl ?_
        refine XS.goto X7.here hexec rfl (pc0 := 41) rfl (hb hbytes d41) (by decide) rfl ?_
        exact Steps.refl _)
      have c10 : Steps p.tables e below (s₁.setTop (entryFrame m #[.ref b, .int (Int32.ofNat o), .ref d, .int (Int32.ofNat q), .int (Int32.ofNat len)] 7)) (T7.setTop (mkF m 3 #[.val (.ref b), .val (.int (Int32.ofNat (o + (i + 1)))), .val (.ref d), .val (.int (Int32.ofNat (q + (i + 1)))), .val (.int (Int32.ofNat len)), .val (.int (Int32.ofNat (i + 1))), .val (.int (cv A (o + i)))] [])) := by
        have := c9
        rw [succ32, succ32, succ32] at this
        exact this
      exact ih (i + 1) (by omega) _ (Or.inr ⟨_, rfl, rfl⟩) T7 _ (by rw [copyLocs_step, ← List.append_assoc]; exact X7) (pl.trans p7) (fl.step (by omega) hlt (by simp)) c10
  obtain ⟨T9, B9, z9, X9, p9, f9, g9⟩ := loop len 0 (by omega) .unset (Or.inl rfl) s₁ B (by simpa [copyLocs] using X0) ⟨hB0.1, fun _ _ => rfl, rfl⟩ (Laid.zero _ _ _) c2
  have c11 : Steps p.tables e below (s₁.setTop (entryFrame m #[.ref b, .int (Int32.ofNat o), .ref d, .int (Int32.ofNat q), .int (Int32.ofNat len)] 7)) (T9.setTop (mkF m 46 #[.val (.ref b), .val (.int (Int32.ofNat (o + len))), .val (.ref d), .val (.int (Int32.ofNat (q + len))), .val (.int (Int32.ofNat len)), .val (.int (Int32.ofNat len)), z9] [.int (Int32.ofNat len)])) := g9.trans (by
    refine XS.iload X9.here hexec rfl (hb hbytes d3) rfl ?_
    refine XS.iload X9.here hexec rfl (hb hbytes d5) rfl ?_
    refine XS.icmpYes X9.here hexec rfl (pc0 := 7) rfl (hb hbytes d7) rfl (ii_ge_t (nlt32 (by omega) (Nat.le_refl _))) (by decide) rfl ?_
    refine XS.iload X9.here hexec rfl (hb hbytes d44) rfl ?_
    exact Steps.refl _)
  exact ⟨T9, some (.int (Int32.ofNat len)), _, _, _, X9, by simp, rfl, rfl, (fun h => by cases h), ⟨rfl, B9, p9.from hh0, f9⟩, fun fs hl => c11.trans (X9.ireturnOut hexec hret rfl (Or.inl rfl) (hb hbytes d46) hl)⟩
end Cmp5
namespace Cmp3
def yN : MethodName := ⟨"java/lang/StringUTF16", "compress", "([CII)[B"⟩
abbrev yB : ByteArray := jdk_52_method_16_code
theorem d0 : decode yB 0 = .ok (.iload_n 2, 1) := by decide +kernel
theorem d1 : decode yB 1 = .ok (.newarray .byte, 2) := by decide +kernel
theorem d3 : decode yB 3 = .ok (.astore_n 3, 1) := by decide +kernel
theorem d4 : decode yB 4 = .ok (.aload_n 0, 1) := by decide +kernel
theorem d5 : decode yB 5 = .ok (.iload_n 1, 1) := by decide +kernel
theorem d6 : decode yB 6 = .ok (.aload_n 3, 1) := by decide +kernel
theorem d7 : decode yB 7 = .ok (.iconst 0, 1) := by decide +kernel
theorem d8 : decode yB 8 = .ok (.iload_n 2, 1) := by decide +kernel
theorem d9 : decode yB 9 = .ok (.invokestatic 115, 3) := by decide +kernel
theorem d12 : decode yB 12 = .ok (.istore 4, 2) := by decide +kernel
theorem d14 : decode yB 14 = .ok (.iload 4, 2) := by decide +kernel
theorem d16 : decode yB 16 = .ok (.iload_n 2, 1) := by decide +kernel
theorem d17 : decode yB 17 = .ok (.if_icmp (.eq) 40, 3) := by decide +kernel
theorem d57 : decode yB 57 = .ok (.aload_n 3, 1) := by decide +kernel
theorem d58 : decode yB 58 = .ok (.areturn, 1) := by decide +kernel
def site : List Cond := [.arrayClass .byte, Cmp5.tab] ++ staticW U16 115 Cmp5.yN
def tab : Cond := tabOf yN yB 6 (some (.array .byte)) site
def P (b : Addr) (A : Cell) (o len : Nat) (args : Array Value) (s : State) : Prop := args = #[.ref b, .int (Int32.ofNat o), .int (Int32.ofNat len)] ∧ Ch b A s ∧ o + len ≤ A.slots.size ∧ len ≤ 536870912 ∧ ∀ i, i < len → ¬ 255 < cv A (o + i)
def E (b : Addr) (A : Cell) (o len : Nat) (r : Option Value) (s u : State) : Prop := NewArr .byte "[B" len (fun j => .int (lo8 (cv A (o + j)))) r s u ∧ u.heap.size = s.heap.size + 1
/-- no char of the range above 255: a new byte[] of their low bytes -/
theorem law (l : Launch) (b : Addr) (A : Cell) (o len : Nat) : Law l yN 3 3 1 18 yB 6 (some (.array .byte)) site (P b A o len) (E b A o len) [] 1 len := by
  refine Law.of_walk (plainFor_of_name (by decide +kernel)) (by decide +kernel) (by decide +kernel) (by decide) (fun _ _ h => by rw [h.1]; rfl) (fun _ U U' hal hh h => ⟨h.1, h.2.1.mv hal hh, h.2.2⟩) (fun r U U' V V' h1 hal h2 h => ⟨NewArr.mv r U U' V V' h1 hal h2 h.1, by rw [h1, h2]; exact h.2⟩) ?_
  intro p e s m args below meth c s₁ X0 hexec hbytes hml hret hlk hnm hown hh0 W hP
  obtain ⟨rfl, hA, l1, l2, hp⟩ := hP
  have a31 := hA.1.2.2.2
  have c1 : Steps p.tables e below (s₁.setTop (entryFrame m #[.ref b, .int (Int32.ofNat o), .int (Int32.ofNat len)] 6)) (s₁.setTop (mkF m 0 #[.val (.ref b), .val (.int (Int32.ofNat o)), .val (.int (Int32.ofNat len)), .unset, .unset, .unset] [])) := entry rfl
  have c2 : Steps p.tables e below (s₁.setTop (entryFrame m #[.ref b, .int (Int32.ofNat o), .int (Int32.ofNat len)] 6)) (s₁.setTop (mkF m 1 #[.val (.ref b), .val (.int (Int32.ofNat o)), .val (.int (Int32.ofNat len)), .unset, .unset, .unset] [.int (Int32.ofNat len)])) := c1.trans (by
    refine XS.iloadN X0.here hexec rfl (hb hbytes d0) rfl ?_
    exact Steps.refl _)
  obtain ⟨T3, B3, X3, ba3, bs3, bv3, bh3, bf3, st3⟩ := X0.anew hexec (atype := .byte) (wk W (.arrayClass .byte)) rfl (by show len * 1 ≤ _; omega) (by omega) (g := (mkF m 1 #[.val (.ref b), .val (.int (Int32.ofNat o)), .val (.int (Int32.ofNat len)), .unset, .unset, .unset] [.int (Int32.ofNat len)])) rfl (hb hbytes d1) (rest := []) rfl (Nat.le_refl _) (by show 0 + len ≤ len; omega)
  rw [hh0] at ba3 st3
  have kp3 : XT.Kept s T3 := (XT.Kept.of_eq hh0).push bh3
  have hA3 := hA.keep X3.warmed.alike (kp3 _ _ hA.1.1)
  have hne : b ≠ s.heap.size := hA.1.ne
  have c4 : Steps p.tables e below (s₁.setTop (entryFrame m #[.ref b, .int (Int32.ofNat o), .int (Int32.ofNat len)] 6)) (T3.setTop (mkF m 3 #[.val (.ref b), .val (.int (Int32.ofNat o)), .val (.int (Int32.ofNat len)), .unset, .unset, .unset] [.ref s.heap.size])) := c2.trans (st3 _ (Steps.refl _))
  have c5 : Steps p.tables e below (s₁.setTop (entryFrame m #[.ref b, .int (Int32.ofNat o), .int (Int32.ofNat len)] 6)) (T3.setTop (mkF m 9 #[.val (.ref b), .val (.int (Int32.ofNat o)), .val (.int (Int32.ofNat len)), .val (.ref s.heap.size), .unset, .unset] [.int (Int32.ofNat len), .int 0, .ref s.heap.size, .int (Int32.ofNat o), .ref b])) := c4.trans (by
    refine XS.astoreN X3.here hexec rfl (hb hbytes d3) rfl rfl rfl ?_
    refine XS.aloadN X3.here hexec rfl (hb hbytes d4) rfl rfl ?_
    refine XS.iloadN X3.here hexec rfl (hb hbytes d5) rfl ?_
    refine XS.aloadN X3.here hexec rfl (hb hbytes d6) rfl rfl ?_
    refine iconstV X3.here hexec rfl 0 (hb hbytes d7) (by decide) ?_
    refine XS.iloadN X3.here hexec rfl (hb hbytes d8) rfl ?_
    exact Steps.refl _)
  obtain ⟨v6, T6, X6, E6, g6⟩ := X3.callS hexec (Cmp5.law l b A s.heap.size B3 o 0 len) hown (wks W (staticW U16 115 Cmp5.yN)) (wk W Cmp5.tab) (W := 0) (Nat.le_of_ble_eq_true rfl) (Nat.le_of_ble_eq_true rfl) (Nat.le_refl _) (by show 0 + len + 0 ≤ len; omega) (g := (mkF m 9 #[.val (.ref b), .val (.int (Int32.ofNat o)), .val (.int (Int32.ofNat len)), .val (.ref s.heap.size), .unset, .unset] [.int (Int32.ofNat len), .int (Int32.ofNat 0), .ref s.heap.size, .int (Int32.ofNat o), .ref b])) rfl (by rw [hml]; rfl) c5 (argsL := [.ref b, .int (Int32.ofNat o), .ref s.heap.size, .int (Int32.ofNat 0), .int (Int32.ofNat len)]) (rest := []) rfl rfl (by show 2 * 0 + 0 ≤ _; decide) (hb hbytes d9) (⟨rfl, hA3, ba3, hne, l1, by rw [bs3]; simp, hp⟩)
  obtain ⟨rfl, B6, p6, f6⟩ := E6
  have c7 : Steps p.tables e below (s₁.setTop (entryFrame m #[.ref b, .int (Int32.ofNat o), .int (Int32.ofNat len)] 6)) (T6.setTop (mkF m 12 #[.val (.ref b), .val (.int (Int32.ofNat o)), .val (.int (Int32.ofNat len)), .val (.ref s.heap.size), .unset, .unset] [.int (Int32.ofNat len)])) := g6
  have c8 : Steps p.tables e below (s₁.setTop (entryFrame m #[.ref b, .int (Int32.ofNat o), .int (Int32.ofNat len)] 6)) (T6.setTop (mkF m 58 #[.val (.ref b), .val (.int (Int32.ofNat o)), .val (.int (Int32.ofNat len)), .val (.ref s.heap.size), .val (.int (Int32.ofNat len)), .unset] [.ref s.heap.size])) := c7.trans (by
    refine XS.istore X6.here hexec rfl (hb hbytes d12) rfl rfl ?_
    refine XS.iload X6.here hexec rfl (hb hbytes d14) rfl ?_
    refine XS.iloadN X6.here hexec rfl (hb hbytes d16) rfl ?_
    refine XS.icmpYes X6.here hexec rfl (pc0 := 17) rfl (hb hbytes d17) rfl (ii_eq_t rfl) (by decide) rfl ?_
    refine XS.aloadN X6.here hexec rfl (hb hbytes d57) rfl rfl ?_
    exact Steps.refl _)
  have X8 := X6.wide (L' := []) (cells' := 1) (slots' := len) (fun x hx hlt => by
    simp only [List.nil_append, copyLocs, List.mem_map, List.mem_range] at hx
    obtain ⟨i, -, rfl⟩ := hx
    exact absurd hlt (Nat.lt_irrefl _)) (Nat.le_refl _) (by omega)
  exact ⟨T6, some (.ref s.heap.size), _, _, _, X8, rfl, rfl, rfl, (fun h => by cases h), ⟨⟨rfl, B6, ba3.like (X3.warmed.alike.symm.trans X6.warmed.alike) p6.1 f6.1 f6.2.1 f6.2.2.1, f6.2.1.trans bv3, by rw [X6.warmed.alike.findClass, f6.1]; exact bf3, by rw [f6.2.2.1, bs3]; simp, fun j hj => by rw [f6.2.2.2 j, if_pos (by omega)]; rfl, kp3.put p6 (Nat.le_refl _)⟩, by rw [p6.2.2, bh3, hh0]; simp⟩, fun fs hl => c8.trans (X8.areturnOut hexec rfl hret rfl (hb hbytes d58) hl)⟩
end Cmp3
namespace CodL
def yN : MethodName := ⟨"java/lang/StringUTF16", "coderFromArrayLen", "([BI)B"⟩
abbrev yB : ByteArray := jdk_52_method_15_code
theorem d0 : decode yB 0 = .ok (.iload_n 1, 1) := by decide +kernel
theorem d1 : decode yB 1 = .ok (.aload_n 0, 1) := by decide +kernel
theorem d2 : decode yB 2 = .ok (.arraylength, 1) := by decide +kernel
theorem d3 : decode yB 3 = .ok (.isub, 1) := by decide +kernel
theorem d4 : decode yB 4 = .ok (.bipush 31, 2) := by decide +kernel
theorem d6 : decode yB 6 = .ok (.iushr, 1) := by decide +kernel
theorem d7 : decode yB 7 = .ok (.i2b, 1) := by decide +kernel
theorem d8 : decode yB 8 = .ok (.ireturn, 1) := by decide +kernel
def site : List Cond := []
def tab : Cond := tabOf yN yB 2 (some .byte) site
def P (d : Addr) (B : Cell) (args : Array Value) (s : State) : Prop := args = #[.ref d, .int (Int32.ofNat B.slots.size)] ∧ Arr .byte d B s
def E (r : Option Value) (s u : State) : Prop := XT.PureE (some (.int 0)) r s u
/-- an array as long as the number of chars: LATIN1 -/
theorem law (l : Launch) (d : Addr) (B : Cell) : Law l yN 2 2 0 0 yB 2 (some .byte) site (P d B) E [] 0 0 := by
  refine Law.of_walk (plainFor_of_name (by decide +kernel)) (by decide +kernel) (by decide +kernel) (by decide) (fun _ _ h => by rw [h.1]; rfl) (fun _ U U' hal hh h => ⟨h.1, h.2.mv hal hh⟩) (fun r U U' V V' h1 hal h2 h => XT.PureE.mv r U U' V V' h1 hal h2 h) ?_
  intro p e s m args below meth c s₁ X0 hexec hbytes hml hret hlk hnm hown hh0 W hP
  obtain ⟨rfl, hB⟩ := hP
  have hB0 := hB.mv X0.warmed.alike hh0
  have c1 : Steps p.tables e below (s₁.setTop (entryFrame m #[.ref d, .int (Int32.ofNat B.slots.size)] 2)) (s₁.setTop (mkF m 0 #[.val (.ref d), .val (.int (Int32.ofNat B.slots.size))] [])) := entry rfl
  have c2 : Steps p.tables e below (s₁.setTop (entryFrame m #[.ref d, .int (Int32.ofNat B.slots.size)] 2)) (s₁.setTop (mkF m 2 #[.val (.ref d), .val (.int (Int32.ofNat B.slots.size))] [.ref d, .int (Int32.ofNat B.slots.size)])) := c1.trans (by
    refine XS.iloadN X0.here hexec rfl (hb hbytes d0) rfl ?_
    refine XS.aloadN X0.here hexec rfl (hb hbytes d1) rfl rfl ?_
    exact Steps.refl _)
  have c3 : Steps p.tables e below (s₁.setTop (entryFrame m #[.ref d, .int (Int32.ofNat B.slots.size)] 2)) (s₁.setTop (mkF m 8 #[.val (.ref d), .val (.int (Int32.ofNat B.slots.size))] [.int (lo8 (ushr (Int32.ofNat B.slots.size - Int32.ofNat B.slots.size) 31))])) := c2.trans (by
    refine X0.alen hexec hB0 rfl rfl (hb hbytes d2) ?_
    refine XS.isub X0.here hexec rfl (hb hbytes d3) rfl ?_
    refine bipushV X0.here hexec rfl 31 (hb hbytes d4) (by decide) ?_
    refine iushr X0.here hexec rfl (hb hbytes d6) rfl ?_
    refine i2b X0.here hexec rfl (hb hbytes d7) rfl ?_
    exact Steps.refl _)
  have e0 : lo8 (ushr (Int32.ofNat B.slots.size - Int32.ofNat B.slots.size) 31) = 0 := by rw [Int32.sub_self]; decide
  rw [e0] at c3
  exact ⟨s₁, some (.int 0), _, _, _, X0, rfl, rfl, rfl, (fun h => by cases h), ⟨rfl, hh0⟩, fun fs hl => c3.trans (X0.ireturnOut hexec hret rfl (Or.inr (Or.inr (Or.inl rfl))) (hb hbytes d8) hl)⟩
end CodL
/-- the String at a is Latin-1 over a new byte[] (the heap's one new cell): the low bytes of the len chars of A from o on; every cell but a is kept -/
def Got (a : Addr) (D : Cell) (fV fC : Field) (A : Cell) (o len : Nat) (r : Option Value) (s u : State) : Prop := r = none ∧ ∃ D' V : Cell, Blank "java/lang/String" a D' u ∧ Same D D' [fV.slot, fC.slot] ∧ D'.slots[fV.slot]? = some (.ref s.heap.size) ∧ D'.slots[fC.slot]? = some (.int 0) ∧ Arr .byte s.heap.size V u ∧ V.vm = .none ∧ u.vm.findClass "[B" = some V.cls ∧ V.slots.size = len ∧ (∀ j, j < len → V.slots[j]? = some (.int (lo8 (cv A (o + j))))) ∧ (∀ (y : Addr) (c : Cell), y ≠ a → s.heap[y]? = some c → u.heap[y]? = some c) ∧ u.heap.size = s.heap.size + 1
theorem Got.mv {a : Addr} {D A : Cell} {fV fC : Field} {o len : Nat} : ∀ r (U U' V V' : State), U'.heap = U.heap → V.vm.Alike V'.vm → V'.heap = V.heap → Got a D fV fC A o len r U V → Got a D fV fC A o len r U' V' :=
  fun r U U' V V' h1 hal h2 ⟨e0, D', X, a1, a2, a3, a4, a5, a6, a7, a8, a9, a10, a11⟩ => ⟨e0, D', X, a1.mv hal h2, a2, by rw [h1]; exact a3, a4, by rw [h1]; exact a5.mv hal h2, a6, by rw [hal.findClass]; exact a7, a8, a9, by rw [h1, h2]; exact a10, by rw [h1, h2]; exact a11⟩
namespace New4
def yN : MethodName := ⟨"java/lang/String", "<init>", "([CIILjava/lang/Void;)V"⟩
abbrev yB : ByteArray := jdk_42_method_149_code
theorem d0 : decode yB 0 = .ok (.aload_n 0, 1) := by decide +kernel
theorem d1 : decode yB 1 = .ok (.invokespecial 1, 3) := by decide +kernel
theorem d4 : decode yB 4 = .ok (.iload_n 3, 1) := by decide +kernel
theorem d5 : decode yB 5 = .ok (.ifCond (.ne) 22, 3) := by decide +kernel
theorem d27 : decode yB 27 = .ok (.getstatic 38, 3) := by decide +kernel
theorem d30 : decode yB 30 = .ok (.ifCond (.eq) 28, 3) := by decide +kernel
theorem d33 : decode yB 33 = .ok (.aload_n 1, 1) := by decide +kernel
theorem d34 : decode yB 34 = .ok (.iload_n 2, 1) := by decide +kernel
theorem d35 : decode yB 35 = .ok (.iload_n 3, 1) := by decide +kernel
theorem d36 : decode yB 36 = .ok (.invokestatic 177, 3) := by decide +kernel
theorem d39 : decode yB 39 = .ok (.astore 5, 2) := by decide +kernel
theorem d41 : decode yB 41 = .ok (.aload_n 0, 1) := by decide +kernel
theorem d42 : decode yB 42 = .ok (.aload 5, 2) := by decide +kernel
theorem d44 : decode yB 44 = .ok (.iload_n 3, 1) := by decide +kernel
theorem d45 : decode yB 45 = .ok (.invokestatic 47, 3) := by decide +kernel
theorem d48 : decode yB 48 = .ok (.putfield 15, 3) := by decide +kernel
theorem d51 : decode yB 51 = .ok (.aload_n 0, 1) := by decide +kernel
theorem d52 : decode yB 52 = .ok (.aload 5, 2) := by decide +kernel
theorem d54 : decode yB 54 = .ok (.putfield 9, 3) := by decide +kernel
theorem d57 : decode yB 57 = .ok (.return_, 1) := by decide +kernel
def site : List Cond := [.fieldLink "java/lang/String" 38 "java/lang/String" "COMPACT_STRINGS" "Z", Cmp3.tab, CodL.tab, .laysFinal "java/lang/String" "java/lang/String" "value" "[B", .fieldLink "java/lang/String" 9 "java/lang/String" "value" "[B", .laysFinal "java/lang/String" "java/lang/String" "coder" "B", .fieldLink "java/lang/String" 15 "java/lang/String" "coder" "B"] ++ objW "java/lang/String" 1 ++ staticW "java/lang/String" 177 Cmp3.yN ++ staticW "java/lang/String" 47 CodL.yN
def tab : Cond := tabOf yN yB 6 none site
def P (a : Addr) (D : Cell) (fV fC : Field) (b : Addr) (A : Cell) (z : Int32) (o len : Nat) (args : Array Value) (s : State) : Prop := args = #[.ref a, .ref b, .int (Int32.ofNat o), .int (Int32.ofNat len), .null] ∧ Blank "java/lang/String" a D s ∧ Found "java/lang/String" "value" "[B" fV s ∧ Found "java/lang/String" "coder" "B" fC s ∧ Ch b A s ∧ StaticIs s "java/lang/String" "COMPACT_STRINGS" "Z" (.int z) ∧ ¬ z = 0 ∧ 0 < len ∧ o + len ≤ A.slots.size ∧ len ≤ 536870912 ∧ ∀ i, i < len → ¬ 255 < cv A (o + i)
def E (a : Addr) (D : Cell) (fV fC : Field) (A : Cell) (o len : Nat) (r : Option Value) (s u : State) : Prop := Got a D fV fC A o len r s u
/-- len > 0, no char of the range above 255: a Latin-1 String of their low bytes -/
theorem law (l : Launch) (a : Addr) (D : Cell) (fV fC : Field) (b : Addr) (A : Cell) (z : Int32) (o len : Nat) : Law l yN 5 4 2 35 yB 6 none site (P a D fV fC b A z o len) (E a D fV fC A o len) [⟨a, fC.slot⟩, ⟨a, fV.slot⟩] 1 len := by
  refine Law.of_walk (plainFor_of_name (by decide +kernel)) (by decide +kernel) (by decide +kernel) (by decide) (fun _ _ h => by rw [h.1]; rfl) (fun _ U U' hal hh h => ⟨h.1, h.2.1.mv hal hh, h.2.2.1.al hal, h.2.2.2.1.al hal, h.2.2.2.2.1.mv hal hh, h.2.2.2.2.2.1.there hal hh, h.2.2.2.2.2.2⟩) (fun r U U' V V' h1 hal h2 h => Got.mv r U U' V V' h1 hal h2 h) ?_
  intro p e s m args below meth c s₁ X0 hexec hbytes hml hret hlk hnm hown hh0 W hP
  obtain ⟨rfl, hB, f1, f2, hA, s1, hz, l0, l1, l2, hp⟩ := hP
  have a31 := hA.1.2.2.2
  have c1 : Steps p.tables e below (s₁.setTop (entryFrame m #[.ref a, .ref b, .int (Int32.ofNat o), .int (Int32.ofNat len), .null] 6)) (s₁.setTop (mkF m 0 #[.val (.ref a), .val (.ref b), .val (.int (Int32.ofNat o)), .val (.int (Int32.ofNat len)), .val .null, .unset] [])) := entry rfl
  have c2 : Steps p.tables e below (s₁.setTop (entryFrame m #[.ref a, .ref b, .int (Int32.ofNat o), .int (Int32.ofNat len), .null] 6)) (s₁.setTop (mkF m 1 #[.val (.ref a), .val (.ref b), .val (.int (Int32.ofNat o)), .val (.int (Int32.ofNat len)), .val .null, .unset] [.ref a])) := c1.trans (by
    refine XS.aloadN X0.here hexec rfl (hb hbytes d0) rfl rfl ?_
    exact Steps.refl _)
  obtain ⟨T3, X3, q3, st3⟩ := X0.oinit hexec hown (wks W (objW "java/lang/String" 1)) (g := (mkF m 1 #[.val (.ref a), .val (.ref b), .val (.int (Int32.ofNat o)), .val (.int (Int32.ofNat len)), .val .null, .unset] [.ref a])) rfl (by rw [hml]; rfl) (rest := []) rfl (hb hbytes d1) (W := 0) (by show 2 * 0 + 0 ≤ _; decide) (Nat.le_of_ble_eq_true rfl) (Nat.le_of_ble_eq_true rfl)
  have hh3 := q3.trans hh0
  have c4 : Steps p.tables e below (s₁.setTop (entryFrame m #[.ref a, .ref b, .int (Int32.ofNat o), .int (Int32.ofNat len), .null] 6)) (T3.setTop (mkF m 27 #[.val (.ref a), .val (.ref b), .val (.int (Int32.ofNat o)), .val (.int (Int32.ofNat len)), .val .null, .unset] [])) := (c2.trans (st3 _ (Steps.refl _))).trans (by
    refine XS.iloadN X3.here hexec rfl (hb hbytes d4) rfl ?_
    refine XS.ifYes X3.here hexec rfl (pc0 := 5) rfl (hb hbytes d5) rfl (i0_ne_t (nz32 (by omega) l0)) (by decide) rfl ?_
    exact Steps.refl _)
  obtain ⟨T5, X5, q5, st5⟩ := X3.sget hexec hown (wk W (.fieldLink "java/lang/String" 38 "java/lang/String" "COMPACT_STRINGS" "Z")) s1 (fun _ _ h => by rw [hh3]; exact h) (g := (mkF m 27 #[.val (.ref a), .val (.ref b), .val (.int (Int32.ofNat o)), .val (.int (Int32.ofNat len)), .val .null, .unset] [])) rfl (hb hbytes d27)
  have hh5 := q5.trans hh3
  have c6 : Steps p.tables e below (s₁.setTop (entryFrame m #[.ref a, .ref b, .int (Int32.ofNat o), .int (Int32.ofNat len), .null] 6)) (T5.setTop (mkF m 30 #[.val (.ref a), .val (.ref b), .val (.int (Int32.ofNat o)), .val (.int (Int32.ofNat len)), .val .null, .unset] [.int z])) := c4.trans (st5 _ (Steps.refl _))
  have c7 : Steps p.tables e below (s₁.setTop (entryFrame m #[.ref a, .ref b, .int (Int32.ofNat o), .int (Int32.ofNat len), .null] 6)) (T5.setTop (mkF m 36 #[.val (.ref a), .val (.ref b), .val (.int (Int32.ofNat o)), .val (.int (Int32.ofNat len)), .val .null, .unset] [.int (Int32.ofNat len), .int (Int32.ofNat o), .ref b])) := c6.trans (by
    refine XS.ifNo X5.here hexec rfl (hb hbytes d30) rfl (i0_eq_f hz) ?_
    refine XS.aloadN X5.here hexec rfl (hb hbytes d33) rfl rfl ?_
    refine XS.iloadN X5.here hexec rfl (hb hbytes d34) rfl ?_
    refine XS.iloadN X5.here hexec rfl (hb hbytes d35) rfl ?_
    exact Steps.refl _)
  obtain ⟨v8, T8, X8, E8, g8⟩ := X5.callS hexec (Cmp3.law l b A o len) hown (wks W (staticW "java/lang/String" 177 Cmp3.yN)) (wk W Cmp3.tab) (W := 0) (Nat.le_of_ble_eq_true rfl) (Nat.le_of_ble_eq_true rfl) (Nat.le_refl _) (by show 0 + len ≤ len; omega) (g := (mkF m 36 #[.val (.ref a), .val (.ref b), .val (.int (Int32.ofNat o)), .val (.int (Int32.ofNat len)), .val .null, .unset] [.int (Int32.ofNat len), .int (Int32.ofNat o), .ref b])) rfl (by rw [hml]; rfl) c7 (argsL := [.ref b, .int (Int32.ofNat o), .int (Int32.ofNat len)]) (rest := []) rfl rfl (by show 2 * 0 + 0 ≤ _; decide) (hb hbytes d36) (⟨rfl, hA.mv X5.warmed.alike hh5, l1, l2, hp⟩)
  obtain ⟨e8, z8⟩ := E8
  obtain ⟨rfl, N, n1, n2, n3, n4, n5, n6⟩ := NewArr.mv _ T5 s _ _ hh5.symm (Vm.Alike.refl _) rfl e8
  rw [hh5] at z8
  have hB1 := hB.keep X8.warmed.alike (n6 _ _ hB.1)
  have hne : s.heap.size ≠ a := (Nat.ne_of_lt (Array.getElem?_eq_some_iff.mp hB.1).1).symm
  have c9 : Steps p.tables e below (s₁.setTop (entryFrame m #[.ref a, .ref b, .int (Int32.ofNat o), .int (Int32.ofNat len), .null] 6)) (T8.setTop (mkF m 39 #[.val (.ref a), .val (.ref b), .val (.int (Int32.ofNat o)), .val (.int (Int32.ofNat len)), .val .null, .unset] [.ref s.heap.size])) := g8
  have c10 : Steps p.tables e below (s₁.setTop (entryFrame m #[.ref a, .ref b, .int (Int32.ofNat o), .int (Int32.ofNat len), .null] 6)) (T8.setTop (mkF m 45 #[.val (.ref a), .val (.ref b), .val (.int (Int32.ofNat o)), .val (.int (Int32.ofNat len)), .val .null, .val (.ref s.heap.size)] [.int (Int32.ofNat N.slots.size), .ref s.heap.size, .ref a])) := by
    have hc : Steps p.tables e below (s₁.setTop (entryFrame m #[.ref a, .ref b, .int (Int32.ofNat o), .int (Int32.ofNat len), .null] 6)) (T8.setTop (mkF m 45 #[.val (.ref a), .val (.ref b), .val (.int (Int32.ofNat o)), .val (.int (Int32.ofNat len)), .val .null, .val (.ref s.heap.size)] [.int (Int32.ofNat len), .ref s.heap.size, .ref a])) := c9.trans (by
      refine XS.astore X8.here hexec rfl (hb hbytes d39) rfl rfl rfl ?_
      refine XS.aloadN X8.here hexec rfl (hb hbytes d41) rfl rfl ?_
      refine XS.aload X8.here hexec rfl (hb hbytes d42) rfl rfl ?_
      refine XS.iloadN X8.here hexec rfl (hb hbytes d44) rfl ?_
      exact Steps.refl _)
    rw [n4]; exact hc
  obtain ⟨v11, T11, X11, E11, g11⟩ := X8.callS hexec (CodL.law l s.heap.size N) hown (wks W (staticW "java/lang/String" 47 CodL.yN)) (wk W CodL.tab) (W := 1) (Nat.le_of_ble_eq_true rfl) (Nat.le_of_ble_eq_true rfl) (Nat.le_refl _) (by show 0 + len + 0 ≤ len; omega) (g := (mkF m 45 #[.val (.ref a), .val (.ref b), .val (.int (Int32.ofNat o)), .val (.int (Int32.ofNat len)), .val .null, .val (.ref s.heap.size)] [.int (Int32.ofNat N.slots.size), .ref s.heap.size, .ref a])) rfl (by rw [hml]; rfl) c10 (argsL := [.ref s.heap.size, .int (Int32.ofNat N.slots.size)]) (rest := [.ref a]) rfl rfl (by show 2 * 0 + (1 + 0) ≤ _; decide) (hb hbytes d45) (⟨rfl, n1⟩)
  obtain ⟨rfl, q11⟩ := E11
  have hB11 := hB1.mv (X8.warmed.alike.symm.trans X11.warmed.alike) q11
  have c12 : Steps p.tables e below (s₁.setTop (entryFrame m #[.ref a, .ref b, .int (Int32.ofNat o), .int (Int32.ofNat len), .null] 6)) (T11.setTop (mkF m 48 #[.val (.ref a), .val (.ref b), .val (.int (Int32.ofNat o)), .val (.int (Int32.ofNat len)), .val .null, .val (.ref s.heap.size)] [.int 0, .ref a])) := g11
  obtain ⟨T13, X13, p13, bl13, sl13, st13⟩ := X11.finit hexec hown (wk W (.fieldLink "java/lang/String" 15 "java/lang/String" "coder" "B")) (Or.inr ⟨_, (wk W (.laysFinal "java/lang/String" "java/lang/String" "coder" "B"))⟩) (Or.inl ⟨rfl, hnm⟩) f2 (Or.inl rfl) hB11 (t := .byte) (by decide +kernel) rfl (g := (mkF m 48 #[.val (.ref a), .val (.ref b), .val (.int (Int32.ofNat o)), .val (.int (Int32.ofNat len)), .val .null, .val (.ref s.heap.size)] [.int 0, .ref a])) rfl (rest := []) rfl (hb hbytes d48)
  have c14 : Steps p.tables e below (s₁.setTop (entryFrame m #[.ref a, .ref b, .int (Int32.ofNat o), .int (Int32.ofNat len), .null] 6)) (T13.setTop (mkF m 54 #[.val (.ref a), .val (.ref b), .val (.int (Int32.ofNat o)), .val (.int (Int32.ofNat len)), .val .null, .val (.ref s.heap.size)] [.ref s.heap.size, .ref a])) := (c12.trans (st13 _ (Steps.refl _))).trans (by
    refine XS.aloadN X13.here hexec rfl (hb hbytes d51) rfl rfl ?_
    refine XS.aload X13.here hexec rfl (hb hbytes d52) rfl rfl ?_
    exact Steps.refl _)
  obtain ⟨T15, X15, p15, bl15, sl15, st15⟩ := X13.finit hexec hown (wk W (.fieldLink "java/lang/String" 9 "java/lang/String" "value" "[B")) (Or.inr ⟨_, (wk W (.laysFinal "java/lang/String" "java/lang/String" "value" "[B"))⟩) (Or.inl ⟨rfl, hnm⟩) f1 (Or.inl rfl) bl13 (t := (.array .byte)) (by decide +kernel) rfl (g := (mkF m 54 #[.val (.ref a), .val (.ref b), .val (.int (Int32.ofNat o)), .val (.int (Int32.ofNat len)), .val .null, .val (.ref s.heap.size)] [.ref s.heap.size, .ref a])) rfl (rest := []) rfl (hb hbytes d54)
  have c16 : Steps p.tables e below (s₁.setTop (entryFrame m #[.ref a, .ref b, .int (Int32.ofNat o), .int (Int32.ofNat len), .null] 6)) (T15.setTop (mkF m 57 #[.val (.ref a), .val (.ref b), .val (.int (Int32.ofNat o)), .val (.int (Int32.ofNat len)), .val .null, .val (.ref s.heap.size)] [])) := c14.trans (st15 _ (Steps.refl _))
  have ap := apart (Or.inr ⟨_, (wk W (.laysFinal "java/lang/String" "java/lang/String" "value" "[B"))⟩) (Or.inr ⟨_, (wk W (.laysFinal "java/lang/String" "java/lang/String" "coder" "B"))⟩) f1 f2 (t₁ := .array .byte) (t₂ := .byte) (by decide +kernel) (by decide +kernel) (by decide)
  have al := X8.warmed.alike.symm.trans X15.warmed.alike
  have n7 : T11.heap[s.heap.size]? = some N := by rw [q11]; exact n1.1
  exact ⟨T15, none, _, _, _, X15, by simp, rfl, by omega, (fun _ => rfl), ⟨rfl, _, N, bl15, ((Same.refl D _).set _ (by simp)).set _ (by simp), sl15, (Cell.slots_setSlot_ne _ ap).trans sl13, n1.keep al (p15.other hne (p13.other hne n7)), n2, by rw [al.findClass]; exact n3, n4, n5, fun y c h1 h2 => p15.other h1 (p13.other h1 (by rw [q11]; exact n6 y c h2)), by rw [p15.2.2, p13.2.2, q11]; exact z8⟩, fun fs hl => c16.trans (X15.returnOut hexec hret (hb hbytes d57) hl)⟩
end New4
namespace New1
def yN : MethodName := ⟨"java/lang/String", "<init>", "([C)V"⟩
abbrev yB : ByteArray := jdk_42_method_3_code
theorem d0 : decode yB 0 = .ok (.aload_n 0, 1) := by decide +kernel
theorem d1 : decode yB 1 = .ok (.aload_n 1, 1) := by decide +kernel
theorem d2 : decode yB 2 = .ok (.iconst 0, 1) := by decide +kernel
theorem d3 : decode yB 3 = .ok (.aload_n 1, 1) := by decide +kernel
theorem d4 : decode yB 4 = .ok (.arraylength, 1) := by decide +kernel
theorem d5 : decode yB 5 = .ok (.aconst_null, 1) := by decide +kernel
theorem d6 : decode yB 6 = .ok (.invokespecial 27, 3) := by decide +kernel
theorem d9 : decode yB 9 = .ok (.return_, 1) := by decide +kernel
def site : List Cond := [New4.tab] ++ initW "java/lang/String" 27 New4.yN
def tab : Cond := tabOf yN yB 2 none site
def P (a : Addr) (D : Cell) (fV fC : Field) (b : Addr) (A : Cell) (z : Int32) (args : Array Value) (s : State) : Prop := args = #[.ref a, .ref b] ∧ Blank "java/lang/String" a D s ∧ Found "java/lang/String" "value" "[B" fV s ∧ Found "java/lang/String" "coder" "B" fC s ∧ Ch b A s ∧ StaticIs s "java/lang/String" "COMPACT_STRINGS" "Z" (.int z) ∧ ¬ z = 0 ∧ 0 < A.slots.size ∧ A.slots.size ≤ 536870912 ∧ ∀ i, i < A.slots.size → ¬ 255 < cv A i
def E (a : Addr) (D : Cell) (fV fC : Field) (A : Cell) (r : Option Value) (s u : State) : Prop := Got a D fV fC A 0 A.slots.size r s u
/-- new String(chars), not empty, no char above 255: a Latin-1 String of their low bytes -/
theorem law (l : Launch) (a : Addr) (D : Cell) (fV fC : Field) (b : Addr) (A : Cell) (z : Int32) : Law l yN 2 1 3 52 yB 2 none site (P a D fV fC b A z) (E a D fV fC A) [⟨a, fC.slot⟩, ⟨a, fV.slot⟩] 1 A.slots.size := by
  refine Law.of_walk (plainFor_of_name (by decide +kernel)) (by decide +kernel) (by decide +kernel) (by decide) (fun _ _ h => by rw [h.1]; rfl) (fun _ U U' hal hh h => ⟨h.1, h.2.1.mv hal hh, h.2.2.1.al hal, h.2.2.2.1.al hal, h.2.2.2.2.1.mv hal hh, h.2.2.2.2.2.1.there hal hh, h.2.2.2.2.2.2⟩) (fun r U U' V V' h1 hal h2 h => Got.mv r U U' V V' h1 hal h2 h) ?_
  intro p e s m args below meth c s₁ X0 hexec hbytes hml hret hlk hnm hown hh0 W hP
  obtain ⟨rfl, hB, f1, f2, hA, s1, hz, l0, l2, hp⟩ := hP
  have c1 : Steps p.tables e below (s₁.setTop (entryFrame m #[.ref a, .ref b] 2)) (s₁.setTop (mkF m 0 #[.val (.ref a), .val (.ref b)] [])) := entry rfl
  have c2 : Steps p.tables e below (s₁.setTop (entryFrame m #[.ref a, .ref b] 2)) (s₁.setTop (mkF m 6 #[.val (.ref a), .val (.ref b)] [.null, .int (Int32.ofNat A.slots.size), .int 0, .ref b, .ref a])) := c1.trans (by
    refine XS.aloadN X0.here hexec rfl (hb hbytes d0) rfl rfl ?_
    refine XS.aloadN X0.here hexec rfl (hb hbytes d1) rfl rfl ?_
    refine iconstV X0.here hexec rfl 0 (hb hbytes d2) (by decide) ?_
    refine XS.aloadN X0.here hexec rfl (hb hbytes d3) rfl rfl ?_
    refine X0.alen hexec (hA.1.mv X0.warmed.alike hh0) rfl rfl (hb hbytes d4) ?_
    refine XS.aconstNull X0.here hexec rfl (hb hbytes d5) ?_
    exact Steps.refl _)
  obtain ⟨v3, T3, X3, E3, g3⟩ := X0.callN hexec (New4.law l a D fV fC b A z 0 A.slots.size) rfl hown (wks W (initW "java/lang/String" 27 New4.yN)) (W New4.tab (by simp only [site, List.mem_cons, List.mem_append, true_or, or_true])) (W := 0) (Nat.le_of_ble_eq_true rfl) (Nat.le_of_ble_eq_true rfl) (Nat.le_refl _) (by show 0 + A.slots.size ≤ A.slots.size; omega) (g := (mkF m 6 #[.val (.ref a), .val (.ref b)] [.null, .int (Int32.ofNat A.slots.size), .int (Int32.ofNat 0), .ref b, .ref a])) rfl (by rw [hml]; rfl) c2 (argsL := [.ref b, .int (Int32.ofNat 0), .int (Int32.ofNat A.slots.size), .null]) (rest := []) rfl rfl (by show 2 * 0 + 0 ≤ _; decide) (hb hbytes d6) (⟨rfl, hB.mv X0.warmed.alike hh0, f1.al X0.warmed.alike, f2.al X0.warmed.alike, hA.mv X0.warmed.alike hh0, s1.there X0.warmed.alike hh0, hz, l0, by omega, l2, fun i hi => by rw [Nat.zero_add]; exact hp i hi⟩)
  have e0 := Got.mv _ s₁ s _ _ hh0.symm (Vm.Alike.refl _) rfl E3
  obtain rfl := e0.1
  have c4 : Steps p.tables e below (s₁.setTop (entryFrame m #[.ref a, .ref b] 2)) (T3.setTop (mkF m 9 #[.val (.ref a), .val (.ref b)] [])) := g3
  exact ⟨T3, none, _, _, _, X3, by simp, rfl, by omega, (fun _ => rfl), e0, fun fs hl => c4.trans (X3.returnOut hexec hret (hb hbytes d9) hl)⟩
theorem pays {l : Launch} {R : Room} {p : Program} {e : Env} {below : List Frame} {s : State} {sargs : Array Value} {len W : Nat} (a : Addr) (D : Cell) (fV fC : Field) (b : Addr) (A : Cell) (z : Int32) (htab : tab.before sargs s = true) (hfr : 4 ≤ R.frames) (hlo : W + 65 ≤ R.locals) :
    Back l R p e below s sargs yN len W (fun A₁ a₁ => A₁.cells + 1 ≤ R.cells ∧ A₁.slots + A.slots.size ≤ R.slots ∧ P a D fV fC b A z a₁ A₁.U) (fun A₁ _ v₁ B₁ => E a D fV fC A v₁ A₁.U B₁.U ∧ B₁.locs = A₁.locs ++ [⟨a, fC.slot⟩, ⟨a, fV.slot⟩] ∧ B₁.cells = A₁.cells + 1 ∧ B₁.slots = A₁.slots + A.slots.size) :=
  (law l a D fV fC b A z).pays htab hfr (by omega)
end New1
/-- the byte, read back as charAt reads it, is the char -/
theorem lo8_mask {x : Int32} (h0 : ¬ x < 0) (h1 : ¬ 255 < x) : lo8 x &&& 255 = x := by
  have t : ∀ k : Fin 256, lo8 (Int32.ofNat k.val) &&& 255 = Int32.ofNat k.val := by decide +kernel
  rw [Int32.lt_iff_toInt_lt] at h0 h1
  have e0 : (0 : Int32).toInt = 0 := rfl
  have e1 : (255 : Int32).toInt = 255 := rfl
  obtain ⟨k, hk⟩ : ∃ k : Nat, x.toInt = k := ⟨x.toInt.toNat, by omega⟩
  have hx : x = Int32.ofNat k := Int32.toInt_inj.mp (by rw [hk, Int32.toInt_ofNat_small (by omega)])
  rw [hx]
  exact t ⟨k, by omega⟩
end StrChars
namespace StrChars.Road
open Jvm Sem ClassFile Op Lib Jvm.Stand Jvm.Free Jvm.Free.XT
open Jvm.Lib.Cold (StaticIs)
abbrev ST : String := "java/lang/String"
/-- every table word that New1's law asks, flat -/
abbrev words : List Jvm.Cond := [.code New1.yN New1.yB 2 none, .initialized ST, .methodLink ST 27 New4.yN, .instanceMethod New4.yN,
  .code New4.yN New4.yB 6 none, .fieldLink ST 38 ST "COMPACT_STRINGS" "Z", .laysFinal ST ST "value" "[B", .fieldLink ST 9 ST "value" "[B", .laysFinal ST ST "coder" "B", .fieldLink ST 15 ST "coder" "B",
  .methodLink ST 1 Lib.objectInit, .instanceMethod Lib.objectInit, .code Lib.objectInit ⟨#[0xb1]⟩ 1 none, .methodLink ST 177 Cmp3.yN, .static Cmp3.yN, .methodLink ST 47 CodL.yN, .static CodL.yN,
  .code Cmp3.yN Cmp3.yB 6 (some (.array .byte)), .initialized U16, .arrayClass .byte, .methodLink U16 115 Cmp5.yN, .static Cmp5.yN, .code Cmp5.yN Cmp5.yB 7 (some .int), .code CodL.yN CodL.yB 2 (some .byte)]
theorem tab_of {a : Array Value} {s : State} (h : ∀ w ∈ words, w.before a s = true) : New1.tab.before a s = true := by
  have h5 : Cmp5.tab.before a s = true := unparts (wk h (.code Cmp5.yN Cmp5.yB 7 (some .int))) (wks h (.initialized Cmp5.yN.cls :: Cmp5.site))
  have hc : CodL.tab.before a s = true := unparts (wk h (.code CodL.yN CodL.yB 2 (some .byte))) (wks h (.initialized CodL.yN.cls :: CodL.site))
  have q5 : ∀ w ∈ Cmp5.tab :: words, w.before a s = true := fun w hw => (List.mem_cons.mp hw).elim (fun e => e ▸ h5) (h w)
  have h3 : Cmp3.tab.before a s = true := unparts (wk q5 (.code Cmp3.yN Cmp3.yB 6 (some (.array .byte)))) (wks q5 (.initialized Cmp3.yN.cls :: Cmp3.site))
  have q3 : ∀ w ∈ Cmp3.tab :: CodL.tab :: words, w.before a s = true := fun w hw => (List.mem_cons.mp hw).elim (fun e => e ▸ h3) fun hw => (List.mem_cons.mp hw).elim (fun e => e ▸ hc) (h w)
  have h4 : New4.tab.before a s = true := unparts (wk q3 (.code New4.yN New4.yB 6 none)) (wks q3 (.initialized New4.yN.cls :: New4.site))
  have q4 : ∀ w ∈ New4.tab :: words, w.before a s = true := fun w hw => (List.mem_cons.mp hw).elim (fun e => e ▸ h4) (h w)
  exact unparts (wk q4 (.code New1.yN New1.yB 2 none)) (wks q4 (.initialized New1.yN.cls :: New1.site))
/-- the words ride from the start Z to the walk's own state -/
theorem moved {Z s : State} {a0 args : Array Value} (hZ : Z.Warmed39 s.vm) (hw : ∀ d ∈ words, d.before a0 Z = true) : ∀ d ∈ words, d.before args s = true := fun d hd => by
  have q := hw d hd
  have t : ∀ d ∈ words, d = .arrayClass .byte ∨ (d.onTables && d.keepsFace) = true := by decide +kernel
  rcases t d hd with rfl | t
  · exact RoadKit.mvA hZ q
  · exact RoadKit.mv hZ q t
/-- WHAT COMES BACK, over the tables of the start Z: h the heap at the call, h' behind it -/
def Q (Z : State) (x : Addr) (A : Cell) (h : Heap) (v : Option Value) (h' : Heap) (L : List Loc) : Prop := v = none ∧ (∀ y ∈ L, y.base = x) ∧ RoadKit.Keep h h' [x] ∧ h'.size = h.size + 1 ∧ RoadKit.Exa Z h' x ST ∧ RoadKit.Fld Z h' x ST "value" "[B" (.ref h.size) ∧ RoadKit.Fld Z h' x ST "coder" "B" (.int 0) ∧
  (∃ V : Cell, RoadKit.Arr Z h' h.size V .byte ∧ V.vm = .none ∧ Z.vm.findClass "[B" = some V.cls ∧ V.slots.size = A.slots.size ∧ ∀ j, j < A.slots.size → V.slots[j]? = some (.int (lo8 (cv A j)))) ∧
  ∀ (O n d : String) (w : Value), RoadKit.Fld Z h x O n d w → RoadKit.slotOf Z O n d ≠ RoadKit.slotOf Z ST "value" "[B" → RoadKit.slotOf Z O n d ≠ RoadKit.slotOf Z ST "coder" "B" → RoadKit.Fld Z h' x O n d w
/-- **new String(chars) AT A CALL, IN THE ROAD'S FORM**: for specialBack behind newO: x the fresh String, b the char[] with the cell A -/
theorem back {p : Program} {l : Launch} {e : Env} {R : Room} {s : State} {args : Array Value} {below : List Frame} {len W : Nat} {Z : State} {a0 : Array Value} {h : Heap} (hZ : Z.Warmed39 s.vm) (hw : ∀ d ∈ words, d.before a0 Z = true) {kI : Nat} (wi : (Jvm.Cond.instantiable ST kI).before a0 Z = true)
    {x b : Addr} {A : Cell} {z : Int32} {v0 c0 : Value} (E : RoadKit.Exa Z h x ST) (V : RoadKit.Fld Z h x ST "value" "[B" v0) (C : RoadKit.Fld Z h x ST "coder" "B" c0) (K : RoadKit.Arr Z h b A .char) (hty : Typed .char A) (S : RoadKit.Sta Z h ST "COMPACT_STRINGS" "Z" (.int z)) (hz : ¬ z = 0)
    (l0 : 0 < A.slots.size) (l2 : A.slots.size ≤ 536870912) (hp : ∀ i, i < A.slots.size → ¬ 255 < cv A i) (hfr : 4 ≤ R.frames) (hlo : W + 65 ≤ R.locals) :
    Back l R p e below s args New1.yN len W (fun P a => a = #[.ref x, .ref b] ∧ P.U.heap = h ∧ P.cells + 1 ≤ R.cells ∧ P.slots + A.slots.size ≤ R.slots)
      (fun P _ v B => ∃ L, Q Z x A h v B.U.heap L ∧ B.locs = P.locs ++ L ∧ B.cells = P.cells + 1 ∧ B.slots = P.slots + A.slots.size) := by
  intro m meth c P g ig mk a X hg hsize hdg hW hn hp'
  obtain ⟨rfl, rfl, r1, r2⟩ := hp'
  have al : Z.vm.Alike P.U.vm := hZ.alike.trans X.warmed.alike
  obtain ⟨D, cfV, kV, iV, fV, hD, gV, stV, knV, obV, asV, slV⟩ := id V
  obtain ⟨D', cfC, kC, iC, fC, hD', gC, stC, -, -, asC, slC⟩ := id C
  cases hD.symm.trans hD'
  obtain ⟨D2, kD, e1, e2, e3, e4, e5⟩ := id E
  cases hD.symm.trans e1
  obtain ⟨c2, k2, i1, i2, i3, -⟩ := Cond.instantiable_spec wi
  cases e2.symm.trans i1
  cases e3.symm.trans i2
  obtain ⟨kU, u1, u2⟩ := al.2.2 _ _ e3
  have hB : Blank ST x D P.U := ⟨hD, ⟨knV, fun q hq => by rw [hq] at obV; cases obV⟩, by rw [al.findClass]; exact e2, kU, u1, by rw [u2]; exact i3, by rw [u2]; exact e5 i3⟩
  have F1 : Found ST "value" "[B" fV P.U := ⟨SBG.found_only al ⟨cfV, kV, iV, gV⟩, stV⟩
  have F2 : Found ST "coder" "B" fC P.U := ⟨SBG.found_only al ⟨cfC, kC, iC, gC⟩, stC⟩
  have hA : Ch b A P.U := ⟨⟨K.1, State.isArrayOf_alike al K.2.1, K.2.2, by omega⟩, hty⟩
  have hS : StaticIs P.U ST "COMPACT_STRINGS" "Z" (.int z) := by
    obtain ⟨cfS, iS, kS, fS, st, cS, t1, t2, t3, t4, t5, t6, t7⟩ := S
    exact StaticIs.there (s := { Z with heap := P.U.heap }) ⟨cfS, iS, kS, fS, st, cS, t1, t2, t3, t4, t5, (fun q => by rw [q] at t6; cases t6), t7⟩ al rfl
  obtain ⟨v, B, X', ⟨⟨hv, E', V', q1, q2, q3, q4, q5, q6, q7, q8, q9, q10, q11⟩, hl, hc, hs⟩, st⟩ := New1.pays x D fV fC b A z (tab_of (moved hZ hw)) hfr hlo m meth c P g ig mk _ X hg hsize hdg hW hn ⟨r1, r2, rfl, hB, F1, F2, hA, hS, hz, l0, l2, hp⟩
  have al' : Z.vm.Alike B.U.vm := hZ.alike.trans X'.warmed.alike
  have hsz : E'.slots.size = D.slots.size := by
    obtain ⟨-, -, -, kB, w1, w2, w3⟩ := q1
    obtain ⟨kB', y1, y2⟩ := al'.2.2 _ _ e3
    rw [q2.2.1] at w1
    cases w1.symm.trans y1
    rw [w3, e5 i3, y2]
  refine ⟨v, B, X', ⟨_, ⟨hv, ?_, ⟨by omega, fun y cy hy hn' => q10 y cy (by simpa using hn') hy, fun y cy hy => ?_⟩, q11, ⟨E', _, q1.1, by rw [q2.2.1]; exact e2, by rw [q2.2.1]; exact e3, by rw [q2.1]; exact obV, fun _ => by rw [hsz]; exact e5 i3⟩,
    ⟨E', cfV, kV, iV, fV, q1.1, gV, stV, by rw [q2.1]; exact knV, by rw [q2.1]; exact obV, by rw [q2.2.1]; exact asV, q3⟩, ⟨E', cfC, kC, iC, fC, q1.1, gC, stC, by rw [q2.1]; exact knV, by rw [q2.1]; exact obV, by rw [q2.2.1]; exact asC, q4⟩,
    ⟨V', ⟨q5.1, State.isArrayOf_alike al'.symm q5.2.1, q5.2.2.1⟩, q6, by rw [← al'.findClass]; exact q7, q8, fun j hj => by have := q9 j hj; rwa [Nat.zero_add] at this⟩, fun O n d w F n1 n2 => ?_⟩, hl, hc, hs⟩, st⟩
  · intro y hy
    simp only [List.mem_cons, List.not_mem_nil, or_false] at hy
    rcases hy with rfl | rfl <;> rfl
  · by_cases q : y = x
    · subst q
      cases hD.symm.trans hy
      exact ⟨E', q1.1, q2.2.1, q2.1, hsz⟩
    · exact ⟨cy, q10 y cy q hy, rfl, rfl, rfl⟩
  · obtain ⟨D3, cf, k, i, f, g1, g2, g3, g4, g5, g6, g7⟩ := F
    cases hD.symm.trans g1
    simp only [RoadKit.slotOf, g2, gV, gC, Option.map_some, Option.getD_some] at n1 n2
    exact ⟨E', cf, k, i, f, q1.1, g2, g3, by rw [q2.1]; exact g4, by rw [q2.1]; exact g5, by rw [q2.2.1]; exact g6, by rw [q2.2.2 f.slot (by simp [n1, n2])]; exact g7⟩
end StrChars.Road
namespace StrChars.Road
open Jvm Sem ClassFile Op Lib Jvm.Stand Jvm.Free Jvm.Free.XT
/-- WHAT COMES BACK, the byte[] as a list of values -/
def QA (Z : State) (x : Addr) (zn : Int32) (cs : List Int32) (h : Heap) (v : Option Value) (h' : Heap) (L : List Loc) : Prop := v = none ∧ (∀ y ∈ L, y.base = x) ∧ RoadKit.Keep h h' [x] ∧ h'.size = h.size + 1 ∧ RoadKit.Exa Z h' x ST ∧ RoadKit.Fld Z h' x ST "value" "[B" (.ref h.size) ∧ RoadKit.Fld Z h' x ST "coder" "B" (.int 0) ∧
  (∃ kb, Z.vm.findClass "[B" = some kb ∧ RoadKit.Arv Z h' h.size kb .byte zn (cs.map fun c => .int (lo8 c)) (.int 0)) ∧
  ∀ (O n d : String) (w : Value), RoadKit.Fld Z h x O n d w → RoadKit.slotOf Z O n d ≠ RoadKit.slotOf Z ST "value" "[B" → RoadKit.slotOf Z O n d ≠ RoadKit.slotOf Z ST "coder" "B" → RoadKit.Fld Z h' x O n d w
/-- **new String(chars) AT A CALL, THE ARRAYS AS LISTS**: the char[] at b holds cs, not empty, no char above 255 -/
theorem backArv {p : Program} {l : Launch} {e : Env} {R : Room} {s : State} {args : Array Value} {below : List Frame} {len W : Nat} {Z : State} {a0 : Array Value} {h : Heap} (hZ : Z.Warmed39 s.vm) (hw : ∀ d ∈ words, d.before a0 Z = true) {kI : Nat} (wi : (Jvm.Cond.instantiable ST kI).before a0 Z = true)
    {x b : Addr} {k : ClassId} {zn z : Int32} {cs : List Int32} {dv v0 c0 : Value} (E : RoadKit.Exa Z h x ST) (V : RoadKit.Fld Z h x ST "value" "[B" v0) (C : RoadKit.Fld Z h x ST "coder" "B" c0) (K : RoadKit.Arv Z h b k .char zn (cs.map Value.int) dv) (S : RoadKit.Sta Z h ST "COMPACT_STRINGS" "Z" (.int z)) (hz : ¬ z = 0)
    (hlen : zn.toNatClampNeg = cs.length) (h0 : 0 < cs.length) (hbig : cs.length ≤ 536870912) (hall : ∀ c ∈ cs, ¬ 255 < c) (hfr : 4 ≤ R.frames) (hlo : W + 65 ≤ R.locals) :
    Back l R p e below s args New1.yN len W (fun P a => a = #[.ref x, .ref b] ∧ P.U.heap = h ∧ P.cells + 1 ≤ R.cells ∧ P.slots + cs.length ≤ R.slots)
      (fun P _ v B => ∃ L, QA Z x zn cs h v B.U.heap L ∧ B.locs = P.locs ++ L ∧ B.cells = P.cells + 1 ∧ B.slots = P.slots + cs.length) := by
  obtain ⟨A, K1, K2, K3, K4, K5, K6⟩ := K
  have e : A.slots.size = cs.length := K3.trans hlen
  have hat : ∀ (i : Nat) (hi : i < cs.length), A.slots[i]? = some (.int cs[i]) := fun i hi => by rw [K5 i (by omega)]; simp [List.getD_eq_getElem?_getD, hi]
  have hcv : ∀ (i : Nat) (hi : i < cs.length), cv A i = cs[i] := fun i hi => by unfold cv; rw [hat i hi]
  have hty : Typed .char A := fun i v hv => by
    have hi : i < A.slots.size := (Array.getElem?_eq_some_iff.mp hv).1
    have q := K5 i hi
    rw [hv] at q
    rw [Option.some.inj q]
    exact K6 i hi
  refine Back.mono (back hZ hw wi E V C K1 hty S hz (by omega) (by omega) (fun i hi => by rw [hcv i (by omega)]; exact hall _ (List.getElem_mem _)) hfr hlo) (fun P a hp => ⟨hp.1, hp.2.1, hp.2.2.1, by rw [e]; exact hp.2.2.2⟩) (fun P a v B hp hq => ?_)
  obtain ⟨L, ⟨q1, q2, q3, q4, q5, q6, q7, ⟨V', v1, v2, v3, v4, v5⟩, q9⟩, hl, hc, hs⟩ := hq
  refine ⟨L, ⟨q1, q2, q3, q4, q5, q6, q7, ⟨V'.cls, v3, V', v1, rfl, by rw [v4, e, hlen], K4, fun i hi => ?_, fun i hi => ?_⟩, q9⟩, hl, hc, by rw [hs, e]⟩
  · have hi' : i < cs.length := by omega
    rw [v5 i (by omega), hcv i hi']; simp [List.getD_eq_getElem?_getD, hi']
  · have hi' : i < cs.length := by omega
    simp only [List.getD_eq_getElem?_getD, List.getElem?_map, List.getElem?_eq_getElem hi', Option.map_some, Option.getD_some]
    exact fits_lo8 _
end StrChars.Road
namespace StrChars.Road
open Jvm Sem ClassFile Op Lib Jvm.Stand Jvm.Free Jvm.Free.XT
/-- WHAT COMES BACK, in the writer's own shape -/
def QV (Z : State) (x : Addr) (N : Int32) (bs : List Int32) (h : Heap) (n0 : Nat) (v : Option Value) (h' : Heap) (L : List Loc) : Prop := v = none ∧ RoadKit.Fr n0 L ∧ RoadKit.Keep h h' [x] ∧ RoadKit.Exa Z h' x ST ∧ RoadKit.Fld Z h' x ST "coder" "B" (.int 0) ∧
  ∃ (t : Addr) (kb : ClassId), n0 ≤ t ∧ h.size ≤ t ∧ ¬ t = x ∧ RoadKit.Fld Z h' x ST "value" "[B" (.ref t) ∧ RoadKit.Arv Z h' t kb .byte N (bs.map Value.int) (.int 0)
/-- **new String(chars) AT A CALL, FOR THE WRITER**: a char[] of n known ints, each 0 to 255 -/
theorem backV {p : Program} {l : Launch} {e : Env} {R : Room} {s : State} {args : Array Value} {below : List Frame} {len W : Nat} {Z : State} {a0 : Array Value} {h : Heap} (hZ : Z.Warmed39 s.vm) (hw : ∀ d ∈ words, d.before a0 Z = true) {kI : Nat} (wi : (Jvm.Cond.instantiable ST kI).before a0 Z = true)
    {x b : Addr} {kC : ClassId} {cs bs : List Int32} {d v0 c0 : Value} {z N : Int32} {n n0 : Nat} (hx0 : n0 ≤ x) (hh0 : n0 ≤ h.size) (E : RoadKit.Exa Z h x ST) (V : RoadKit.Fld Z h x ST "value" "[B" v0) (C : RoadKit.Fld Z h x ST "coder" "B" c0) (K : RoadKit.Arv Z h b kC .char N (cs.map Value.int) d) (S : RoadKit.Sta Z h ST "COMPACT_STRINGS" "Z" (.int z)) (hz : ¬ z = 0)
    (hn : cs.length = n) (hN : N = Int32.ofNat n) (l0 : 0 < n) (l2 : n ≤ 4000) (hp : ∀ c ∈ cs, ¬ c < 0 ∧ ¬ (255 : Int32) < c) (hb : bs = cs.map (fun c => c.toInt8.toInt32)) (hfr : 4 ≤ R.frames) (hlo : W + 65 ≤ R.locals) :
    Back l R p e below s args (⟨"java/lang/String", "<init>", "([C)V"⟩ : MethodName) len W (fun P a => a = #[.ref x, .ref b] ∧ P.U.heap = h ∧ P.cells + 1 ≤ R.cells ∧ P.slots + n ≤ R.slots)
      (fun P _ v B => ∃ L, QV Z x N bs h n0 v B.U.heap L ∧ B.locs = P.locs ++ L ∧ B.cells = P.cells + 1 ∧ B.slots = P.slots + n) := by
  subst hn hN hb
  refine Back.mono (backArv hZ hw wi E V C K S hz (n32 (by omega)) l0 (by omega) (fun c hc => (hp c hc).2) hfr hlo) (fun P a hp => hp) (fun P a v B hp hq => ?_)
  obtain ⟨L, ⟨q1, q2, q3, q4, q5, q6, q7, ⟨kb, v1, v2⟩, q9⟩, hl, hc, hs⟩ := hq
  exact ⟨L, ⟨q1, fun y hy => by rw [q2 y hy]; exact hx0, q3, q5, q7, h.size, kb, hh0, Nat.le_refl _, Nat.ne_of_gt E.lt, q6, by rw [List.map_map]; exact v2⟩, hl, hc, hs⟩
end StrChars.Road
namespace StrChars
open Jvm Sem ClassFile Op Lib Jvm.Stand Jvm.Free.XT Jvm.Free.ALB Jvm.Free.JM Jvm.Free
open Jvm.Lib.Cold (StaticIs)
def hi8 (x : Int32) : Int32 := lo8 (x >>> ((8 : Int32) &&& 31))
/-- what StringUTF16.getChar makes of two bytes -/
def pairCh (u v : Int32) : Int32 := (((u &&& 255) <<< ((0 : Int32) &&& 31)) ||| ((v &&& 255) <<< ((8 : Int32) &&& 31))).toUInt32.toUInt16.toUInt32.toInt32
theorem lo8_and (x : Int32) : (lo8 x &&& 255).toBitVec.toNat = x.toBitVec.toNat % 256 := by
  have h : (lo8 x).toBitVec = (x.toBitVec.signExtend 8).signExtend 32 := by rw [lo8, Int8.toBitVec_toInt32, Int32.toBitVec_toInt8]
  rw [Int32.toBitVec_and, BitVec.toNat_and, h]
  have e : ((x.toBitVec.signExtend 8).signExtend 32).toNat % 256 = x.toBitVec.toNat % 256 := by
    rw [BitVec.toNat_signExtend]
    have hlt := x.toBitVec.isLt
    simp only [BitVec.toNat_setWidth, BitVec.toNat_signExtend]
    split <;> split <;> omega
  rw [← e]
  exact Nat.and_two_pow_sub_one_eq_mod _ 8
theorem pair_says {c : Int32} (h0 : ¬ c < 0) (h1 : ¬ 65535 < c) : pairCh (lo8 c) (hi8 c) = c := by
  rw [Int32.lt_iff_toInt_lt] at h0 h1
  have e0 : (0 : Int32).toInt = 0 := rfl
  have e1 : (65535 : Int32).toInt = 65535 := rfl
  have hc : c.toInt = c.toBitVec.toNat := by
    have := c.toBitVec.isLt
    have e : c.toInt = c.toBitVec.toInt := rfl
    rw [e] at h0 h1
    rw [e]
    rw [BitVec.toInt_eq_toNat_cond] at h0 h1 ⊢
    split at h0 <;> split <;> omega
  have hn : c.toBitVec.toNat < 65536 := by omega
  have a1 := lo8_and c
  have a2 : (hi8 c &&& 255).toBitVec.toNat = c.toBitVec.toNat / 256 := by
    rw [hi8, lo8_and]
    have e : ((8 : Int32) &&& 31) = 8 := by decide
    rw [e, Int32.toBitVec_shiftRight]
    have e2 : ((8 : Int32).toBitVec.smod 32) = 8#32 := by decide
    rw [e2, BitVec.sshiftRight_eq', BitVec.toNat_sshiftRight_of_msb_false (by rw [BitVec.msb_eq_false_iff_two_mul_lt]; omega)]
    show c.toBitVec.toNat >>> 8 % 256 = _
    rw [Nat.shiftRight_eq_div_pow]
    omega
  unfold pairCh
  apply Int32.toBitVec_inj.mp
  apply BitVec.eq_of_toNat_eq
  have f0 : ((0 : Int32) &&& 31) = 0 := by decide
  have f8 : ((8 : Int32) &&& 31) = 8 := by decide
  rw [f0, f8]
  have g : (((lo8 c &&& 255) <<< (0 : Int32)) ||| ((hi8 c &&& 255) <<< (8 : Int32))).toBitVec.toNat = c.toBitVec.toNat := by
    rw [Int32.toBitVec_or, Int32.toBitVec_shiftLeft, Int32.toBitVec_shiftLeft]
    have s0 : ((0 : Int32).toBitVec.smod 32) = 0#32 := by decide
    have s8 : ((8 : Int32).toBitVec.smod 32) = 8#32 := by decide
    rw [s0, s8, BitVec.toNat_or]
    simp only [BitVec.shiftLeft_eq', BitVec.toNat_shiftLeft, a1, a2]
    show (c.toBitVec.toNat % 256) <<< 0 % 2 ^ 32 ||| (c.toBitVec.toNat / 256) <<< 8 % 2 ^ 32 = _
    rw [Nat.shiftLeft_zero, Nat.mod_eq_of_lt (show c.toBitVec.toNat % 256 < 2 ^ 32 by omega), Nat.mod_eq_of_lt (show (c.toBitVec.toNat / 256) <<< 8 < 2 ^ 32 by rw [Nat.shiftLeft_eq]; omega), Nat.or_comm, ← Nat.shiftLeft_add_eq_or_of_lt (by omega), Nat.shiftLeft_eq]
    omega
  show BitVec.toNat (((((lo8 c &&& 255) <<< (0 : Int32)) ||| ((hi8 c &&& 255) <<< (8 : Int32))).toBitVec.setWidth 16).setWidth 32) = _
  rw [BitVec.toNat_setWidth, BitVec.toNat_setWidth, g]
  omega
end StrChars
namespace StrChars
open Jvm Sem ClassFile Op Lib Jvm.Stand Jvm.Free.XT Jvm.Free.ALB Jvm.Free.JM Jvm.Free
open Jvm.Lib.Cold (StaticIs)
/-- the array's cell V codes the n chars f 0 .. f (n - 1) by the coder cd, as the JDK does: coder 1 just where some char is above 255 -/
def Cod (cd : Int32) (n : Nat) (f : Nat → Int32) (V : Cell) : Prop := (cd = 0 ∧ V.slots.size = n ∧ ∀ j, j < n → V.slots[j]? = some (.int (lo8 (f j))) ∧ ¬ 255 < f j) ∨ (cd = 1 ∧ V.slots.size = 2 * n ∧ (∀ j, j < n → V.slots[2 * j]? = some (.int (lo8 (f j))) ∧ V.slots[2 * j + 1]? = some (.int (hi8 (f j)))) ∧ ∃ j, j < n ∧ 255 < f j)
/-- **x is a String of the n chars f 0 .. f (n - 1)**, Latin-1 or UTF-16; its array at t has the cell V -/
def Txt (x t : Addr) (V : Cell) (cd : Int32) (n : Nat) (f : Nat → Int32) (U : State) : Prop := Exact "java/lang/String" x U ∧ Has x "java/lang/String" "value" "[B" (.ref t) U ∧ Has x "java/lang/String" "coder" "B" (.int cd) U ∧ XT.Arr .byte t V U ∧ Cod cd n f V ∧ ∀ j, j < n → ¬ f j < 0 ∧ ¬ 65535 < f j
theorem Txt.mv {x t : Addr} {V : Cell} {cd : Int32} {n : Nat} {f : Nat → Int32} {U U' : State} (h : Txt x t V cd n f U) (hal : U.vm.Alike U'.vm) (hh : U'.heap = U.heap) : Txt x t V cd n f U' := ⟨h.1.mv hal hh, h.2.1.mv hal hh, h.2.2.1.mv hal hh, h.2.2.2.1.mv hal hh, h.2.2.2.2⟩
end StrChars
namespace StrChars.Road
open Jvm Sem ClassFile Op Lib Jvm.Stand Jvm.Free Jvm.Free.XT
open Jvm.Lib.Cold (StaticIs)
theorem consq {a : Array Value} {s : State} {c : Jvm.Cond} {L : List Jvm.Cond} (h0 : c.before a s = true) (h : ∀ w ∈ L, w.before a s = true) : ∀ w ∈ c :: L, w.before a s = true := fun w hw => (List.mem_cons.mp hw).elim (fun e => e ▸ h0) (h w)
/-- the bytes of the chars cs, low before high -/
def wideBytes : List Int32 → List Value
  | [] => []
  | c :: cs => .int (lo8 c) :: .int (hi8 c) :: wideBytes cs
theorem wide_lo (d : Value) : ∀ (cs : List Int32) (j : Nat), j < cs.length → (wideBytes cs).getD (2 * j) d = .int (lo8 (cs.getD j 0))
  | [], j, h => absurd h (Nat.not_lt_zero j)
  | c :: cs, 0, _ => rfl
  | c :: cs, j + 1, h => by
    have q := wide_lo d cs j (by simpa using h)
    rw [show 2 * (j + 1) = 2 * j + 1 + 1 from by omega]
    simpa [wideBytes] using q
theorem wide_hi (d : Value) : ∀ (cs : List Int32) (j : Nat), j < cs.length → (wideBytes cs).getD (2 * j + 1) d = .int (hi8 (cs.getD j 0))
  | [], j, h => absurd h (Nat.not_lt_zero j)
  | c :: cs, 0, _ => rfl
  | c :: cs, j + 1, h => by
    have q := wide_hi d cs j (by simpa using h)
    rw [show 2 * (j + 1) + 1 = 2 * j + 1 + 1 + 1 from by omega]
    simpa [wideBytes] using q
theorem low_at (d : Value) (cs : List Int32) (j : Nat) (h : j < cs.length) : (cs.map fun c => Value.int (lo8 c)).getD j d = .int (lo8 (cs.getD j 0)) := by
  simp [List.getD_eq_getElem?_getD, h]
/-- an array of N2 bytes vs codes the chars cs by the coder cd -/
def CodA (cs : List Int32) (cd N2 : Int32) (vs : List Value) : Prop := (cd = 0 ∧ N2 = Int32.ofNat cs.length ∧ vs = (cs.map fun c => Value.int (lo8 c)) ∧ ∀ c ∈ cs, ¬ 255 < c) ∨ (cd = 1 ∧ N2 = Int32.ofNat (2 * cs.length) ∧ vs = wideBytes cs ∧ ∃ c ∈ cs, 255 < c)
theorem CodA.cod {cs : List Int32} {cd N2 : Int32} {vs : List Value} {V : Cell} (h : CodA cs cd N2 vs) (hn : 2 * cs.length < 2 ^ 31) (hs : V.slots.size = N2.toNatClampNeg) (hv : RoadKit.Has V vs (.int 0)) : Cod cd cs.length (fun j => cs.getD j 0) V := by
  rcases h with ⟨rfl, rfl, rfl, h⟩ | ⟨rfl, rfl, rfl, c, hc, hw⟩
  · rw [n32 (by omega)] at hs
    exact Or.inl ⟨rfl, hs, fun j hj => ⟨by rw [hv j (by omega), low_at _ _ _ hj], by
      have e : cs.getD j 0 = cs[j] := by simp [List.getD_eq_getElem?_getD, hj]
      show ¬ 255 < cs.getD j 0
      rw [e]; exact h _ (List.getElem_mem _)⟩⟩
  · rw [n32 (by omega)] at hs
    obtain ⟨j, hj, rfl⟩ := List.getElem_of_mem hc
    exact Or.inr ⟨rfl, hs, fun j hj => ⟨by rw [hv _ (by omega), wide_lo _ _ _ hj], by rw [hv _ (by omega), wide_hi _ _ _ hj]⟩, j, hj, by
      have e : cs.getD j 0 = cs[j] := by simp [List.getD_eq_getElem?_getD, hj]
      show 255 < cs.getD j 0
      rw [e]; exact hw⟩
/-- an object of exactly java/lang/String, its two fields found: as the laws ask it -/
theorem strObj {Z U : State} {a0 : Array Value} {kI : Nat} (wi : (Jvm.Cond.instantiable ST kI).before a0 Z = true) (al : Z.vm.Alike U.vm) {x : Addr} {v0 c0 : Value} (E : RoadKit.Exa Z U.heap x ST) (V : RoadKit.Fld Z U.heap x ST "value" "[B" v0) (C : RoadKit.Fld Z U.heap x ST "coder" "B" c0) :
    ∃ (D : Cell) (fV fC : Field), Blank ST x D U ∧ Found ST "value" "[B" fV U ∧ Found ST "coder" "B" fC U ∧ D.slots[fV.slot]? = some v0 ∧ D.slots[fC.slot]? = some c0 ∧ RoadKit.slotOf Z ST "value" "[B" = fV.slot ∧ RoadKit.slotOf Z ST "coder" "B" = fC.slot := by
  obtain ⟨D, cfV, kV, iV, fV, hD, gV, stV, knV, obV, asV, slV⟩ := V
  obtain ⟨D', cfC, kC, iC, fC, hD', gC, stC, -, -, asC, slC⟩ := C
  cases hD.symm.trans hD'
  obtain ⟨D2, kD, e1, e2, e3, e4, e5⟩ := E
  cases hD.symm.trans e1
  obtain ⟨c2, k2, i1, i2, i3, -⟩ := Cond.instantiable_spec wi
  cases e2.symm.trans i1
  cases e3.symm.trans i2
  obtain ⟨kU, u1, u2⟩ := al.2.2 _ _ e3
  exact ⟨D, fV, fC, ⟨hD, ⟨knV, fun q hq => by rw [hq] at obV; cases obV⟩, by rw [al.findClass]; exact e2, kU, u1, by rw [u2]; exact i3, by rw [u2]; exact e5 i3⟩, ⟨SBG.found_only al ⟨cfV, kV, iV, gV⟩, stV⟩, ⟨SBG.found_only al ⟨cfC, kC, iC, gC⟩, stC⟩, slV, slC, by simp [RoadKit.slotOf, gV], by simp [RoadKit.slotOf, gC]⟩
theorem sta_is {Z U : State} (al : Z.vm.Alike U.vm) {C n d : String} {v : Value} (S : RoadKit.Sta Z U.heap C n d v) : StaticIs U C n d v := by
  obtain ⟨cfS, iS, kS, fS, st, cS, t1, t2, t3, t4, t5, t6, t7⟩ := S
  exact StaticIs.there (s := { Z with heap := U.heap }) ⟨cfS, iS, kS, fS, st, cS, t1, t2, t3, t4, t5, (fun q => by rw [q] at t6; cases t6), t7⟩ al rfl
end StrChars.Road
namespace StrChars
open Jvm Sem ClassFile Op Lib Jvm.Stand Jvm.Free.XT Jvm.Free.ALB Jvm.Free.JM Jvm.Free
open Jvm.Lib.Cold (StaticIs)
/-- what place i of a byte[]'s cell holds -/
def yv (A : Cell) (i : Nat) : Int32 := match A.slots[i]? with | some (.int x) => x | _ => 0
theorem yv_get {a : Addr} {A : Cell} {U : State} (h : XT.Arr .byte a A U) (ht : Typed .byte A) {i : Nat} (hi : i < A.slots.size) : A.slots[i]? = some (.int (yv A i)) := by
  have e := Array.getElem?_eq_getElem hi
  have f := ht i _ e
  unfold yv; rw [e]
  generalize A.slots[i] = v at f
  cases v <;> simp [fits] at f ⊢
/-- the two arrays are equal, place for place -/
def EqC (A B : Cell) : Prop := A.slots.size = B.slots.size ∧ ∀ i, i < A.slots.size → yv A i = yv B i
/-- a boolean that says whether p -/
def Says01 (q : Prop) (r : Option Value) (s u : State) : Prop := ∃ v : Int32, r = some (.int v) ∧ u.heap = s.heap ∧ ((v = 1 ∧ q) ∨ (v = 0 ∧ ¬ q))
theorem Says01.mv {q : Prop} : ∀ r (U U' V V' : State), U'.heap = U.heap → V.vm.Alike V'.vm → V'.heap = V.heap → Says01 q r U V → Says01 q r U' V' :=
  fun r U U' V V' h1 _ h2 ⟨v, a, b, c⟩ => ⟨v, a, by rw [h1, h2]; exact b, c⟩
namespace LEq
def yN : MethodName := ⟨"java/lang/StringLatin1", "equals", "([B[B)Z"⟩
abbrev yB : ByteArray := jdk_43_method_13_code
theorem d0 : decode yB 0 = .ok (.aload_n 0, 1) := by decide +kernel
theorem d1 : decode yB 1 = .ok (.arraylength, 1) := by decide +kernel
theorem d2 : decode yB 2 = .ok (.aload_n 1, 1) := by decide +kernel
theorem d3 : decode yB 3 = .ok (.arraylength, 1) := by decide +kernel
theorem d4 : decode yB 4 = .ok (.if_icmp (.ne) 30, 3) := by decide +kernel
theorem d7 : decode yB 7 = .ok (.iconst 0, 1) := by decide +kernel
theorem d8 : decode yB 8 = .ok (.istore_n 2, 1) := by decide +kernel
theorem d9 : decode yB 9 = .ok (.iload_n 2, 1) := by decide +kernel
theorem d10 : decode yB 10 = .ok (.aload_n 0, 1) := by decide +kernel
theorem d11 : decode yB 11 = .ok (.arraylength, 1) := by decide +kernel
theorem d12 : decode yB 12 = .ok (.if_icmp (.ge) 20, 3) := by decide +kernel
theorem d15 : decode yB 15 = .ok (.aload_n 0, 1) := by decide +kernel
theorem d16 : decode yB 16 = .ok (.iload_n 2, 1) := by decide +kernel
theorem d17 : decode yB 17 = .ok (.baload, 1) := by decide +kernel
theorem d18 : decode yB 18 = .ok (.aload_n 1, 1) := by decide +kernel
theorem d19 : decode yB 19 = .ok (.iload_n 2, 1) := by decide +kernel
theorem d20 : decode yB 20 = .ok (.baload, 1) := by decide +kernel
theorem d21 : decode yB 21 = .ok (.if_icmp (.eq) 5, 3) := by decide +kernel
theorem d24 : decode yB 24 = .ok (.iconst 0, 1) := by decide +kernel
theorem d25 : decode yB 25 = .ok (.ireturn, 1) := by decide +kernel
theorem d26 : decode yB 26 = .ok (.iinc 2 1, 3) := by decide +kernel
theorem d29 : decode yB 29 = .ok (.goto (-20), 3) := by decide +kernel
theorem d32 : decode yB 32 = .ok (.iconst 1, 1) := by decide +kernel
theorem d33 : decode yB 33 = .ok (.ireturn, 1) := by decide +kernel
theorem d34 : decode yB 34 = .ok (.iconst 0, 1) := by decide +kernel
theorem d35 : decode yB 35 = .ok (.ireturn, 1) := by decide +kernel
def site : List Cond := []
def tab : Cond := tabOf yN yB 3 (some .boolean) site
def P (a : Addr) (A : Cell) (b : Addr) (B : Cell) (args : Array Value) (s : State) : Prop := args = #[.ref a, .ref b] ∧ XT.Arr .byte a A s ∧ Typed .byte A ∧ XT.Arr .byte b B s ∧ Typed .byte B
/-- whether two byte[] are equal, place for place -/
theorem law (l : Launch) (a : Addr) (A : Cell) (b : Addr) (B : Cell) : Law l yN 2 2 0 0 yB 3 (some .boolean) site (P a A b B) (Says01 (EqC A B)) [] 0 0 := by
  refine Law.of_walk (plainFor_of_name (by decide +kernel)) (by decide +kernel) (by decide +kernel) (by decide) (fun _ _ h => by rw [h.1]; rfl) (fun _ U U' hal hh h => ⟨h.1, h.2.1.mv hal hh, h.2.2.1, h.2.2.2.1.mv hal hh, h.2.2.2.2⟩) (fun r U U' V V' h1 hal h2 h => Says01.mv r U U' V V' h1 hal h2 h) ?_
  intro p e s m args below meth c s₁ X0 hexec hbytes hml hret hlk hnm hown hh0 W hP
  obtain ⟨rfl, hA, tA, hB, tB⟩ := hP
  have a31 := hA.2.2.2
  have b31 := hB.2.2.2
  have hA0 := hA.mv X0.warmed.alike hh0
  have hB0 := hB.mv X0.warmed.alike hh0
  have c1 : Steps p.tables e below (s₁.setTop (entryFrame m #[.ref a, .ref b] 3)) (s₁.setTop (mkF m 0 #[.val (.ref a), .val (.ref b), .unset] [])) := entry rfl
  have c2 : Steps p.tables e below (s₁.setTop (entryFrame m #[.ref a, .ref b] 3)) (s₁.setTop (mkF m 4 #[.val (.ref a), .val (.ref b), .unset] [.int (Int32.ofNat B.slots.size), .int (Int32.ofNat A.slots.size)])) := c1.trans (by
    refine XS.aloadN X0.here hexec rfl (hb hbytes d0) rfl rfl ?_
    refine X0.alen hexec hA0 rfl rfl (hb hbytes d1) ?_
    refine XS.aloadN X0.here hexec rfl (hb hbytes d2) rfl rfl ?_
    refine X0.alen hexec hB0 rfl rfl (hb hbytes d3) ?_
    exact Steps.refl _)
  by_cases hs : A.slots.size = B.slots.size
  · have c3 : Steps p.tables e below (s₁.setTop (entryFrame m #[.ref a, .ref b] 3)) (s₁.setTop (mkF m 9 #[.val (.ref a), .val (.ref b), .val (.int 0)] [])) := c2.trans (by
      refine XS.icmpNo X0.here hexec rfl (hb hbytes d4) rfl (ii_ne_f (by rw [hs])) ?_
      refine iconstV X0.here hexec rfl 0 (hb hbytes d7) (by decide) ?_
      refine XS.istoreN X0.here hexec rfl (hb hbytes d8) rfl rfl ?_
      exact Steps.refl _)
    have loop : ∀ (r i : Nat), i + r = A.slots.size → (∀ j, j < i → yv A j = yv B j) → Steps p.tables e below (s₁.setTop (entryFrame m #[.ref a, .ref b] 3)) (s₁.setTop (mkF m 9 #[.val (.ref a), .val (.ref b), .val (.int (Int32.ofNat i))] [])) → ∃ (pc : Nat) (Ls : Array Slot) (v : Int32), (pc = 25 ∨ pc = 33) ∧ ((v = 1 ∧ EqC A B) ∨ (v = 0 ∧ ¬ EqC A B)) ∧ Steps p.tables e below (s₁.setTop (entryFrame m #[.ref a, .ref b] 3)) (s₁.setTop (mkF m pc Ls [.int v])) := by
      intro r
      induction r with
      | zero =>
        intro i hi he cl
        exact ⟨33, _, 1, Or.inr rfl, Or.inl ⟨rfl, hs, fun j hj => he j (by omega)⟩, cl.trans (by
          refine XS.iloadN X0.here hexec rfl (hb hbytes d9) rfl ?_
          refine XS.aloadN X0.here hexec rfl (hb hbytes d10) rfl rfl ?_
          refine X0.alen hexec hA0 rfl rfl (hb hbytes d11) ?_
          refine XS.icmpYes X0.here hexec rfl (pc0 := 12) rfl (hb hbytes d12) rfl (ii_ge_t (nlt32 (by omega) (by omega))) (by decide) rfl ?_
          refine iconstV X0.here hexec rfl 1 (hb hbytes d32) (by decide) ?_
          exact Steps.refl _)⟩
      | succ r ih =>
        intro i hi he cl
        have c4 : Steps p.tables e below (s₁.setTop (entryFrame m #[.ref a, .ref b] 3)) (s₁.setTop (mkF m 21 #[.val (.ref a), .val (.ref b), .val (.int (Int32.ofNat i))] [.int (yv B i), .int (yv A i)])) := cl.trans (by
          refine XS.iloadN X0.here hexec rfl (hb hbytes d9) rfl ?_
          refine XS.aloadN X0.here hexec rfl (hb hbytes d10) rfl rfl ?_
          refine X0.alen hexec hA0 rfl rfl (hb hbytes d11) ?_
          refine XS.icmpNo X0.here hexec rfl (hb hbytes d12) rfl (ii_ge_f (lt32 (by omega) (by omega))) ?_
          refine XS.aloadN X0.here hexec rfl (hb hbytes d15) rfl rfl ?_
          refine XS.iloadN X0.here hexec rfl (hb hbytes d16) rfl ?_
          refine X0.aget hexec hA0 rfl (yv_get hA tA (i := i) (by omega)) rfl rfl (hb hbytes d17) ?_
          refine XS.aloadN X0.here hexec rfl (hb hbytes d18) rfl rfl ?_
          refine XS.iloadN X0.here hexec rfl (hb hbytes d19) rfl ?_
          refine X0.aget hexec hB0 rfl (yv_get hB tB (i := i) (by omega)) rfl rfl (hb hbytes d20) ?_
          exact Steps.refl _)
        by_cases hv : yv A i = yv B i
        · have c5 : Steps p.tables e below (s₁.setTop (entryFrame m #[.ref a, .ref b] 3)) (s₁.setTop (mkF m 9 #[.val (.ref a), .val (.ref b), .val (.int (Int32.ofNat i + 1))] [])) := c4.trans (by
            refine XS.icmpYes X0.here hexec rfl (pc0 := 21) rfl (hb hbytes d21) rfl (ii_eq_t hv) (by decide) rfl ?_
            refine iincV X0.here hexec rfl 1 (hb hbytes d26) (by decide) rfl rfl ?_
            refine XS.goto X0.here hexec rfl (pc0 := 29) rfl (hb hbytes d29) (by decide) rfl ?_
            exact Steps.refl _)
          rw [succ32] at c5
          exact ih (i + 1) (by omega) (fun j hj => by
            by_cases e : j = i
            · rw [e]; exact hv
            · exact he j (by omega)) c5
        · exact ⟨25, _, 0, Or.inl rfl, Or.inr ⟨rfl, fun q => hv (q.2 i (by omega))⟩, c4.trans (by
            refine XS.icmpNo X0.here hexec rfl (hb hbytes d21) rfl (ii_eq_f hv) ?_
            refine iconstV X0.here hexec rfl 0 (hb hbytes d24) (by decide) ?_
            exact Steps.refl _)⟩
    obtain ⟨pc, Ls, v, hpc, hv, cz⟩ := loop A.slots.size 0 (by omega) (fun j hj => absurd hj (Nat.not_lt_zero j)) c3
    have nv : narrow .boolean (.int v) = .int v := by rcases hv with ⟨rfl, -⟩ | ⟨rfl, -⟩ <;> rfl
    rcases hpc with rfl | rfl
    · exact ⟨s₁, some (.int v), _, _, _, X0, rfl, rfl, rfl, (fun h => by cases h), ⟨v, rfl, hh0, hv⟩, fun fs hl => cz.trans (X0.ireturnOut hexec hret nv (Or.inr (Or.inl rfl)) (hb hbytes d25) hl)⟩
    · exact ⟨s₁, some (.int v), _, _, _, X0, rfl, rfl, rfl, (fun h => by cases h), ⟨v, rfl, hh0, hv⟩, fun fs hl => cz.trans (X0.ireturnOut hexec hret nv (Or.inr (Or.inl rfl)) (hb hbytes d33) hl)⟩
  · have c3 : Steps p.tables e below (s₁.setTop (entryFrame m #[.ref a, .ref b] 3)) (s₁.setTop (mkF m 35 #[.val (.ref a), .val (.ref b), .unset] [.int 0])) := c2.trans (by
      refine XS.icmpYes X0.here hexec rfl (pc0 := 4) rfl (hb hbytes d4) rfl (ii_ne_t (ne32 a31 b31 hs)) (by decide) rfl ?_
      refine iconstV X0.here hexec rfl 0 (hb hbytes d34) (by decide) ?_
      exact Steps.refl _)
    exact ⟨s₁, some (.int 0), _, _, _, X0, rfl, rfl, rfl, (fun h => by cases h), ⟨0, rfl, hh0, Or.inr ⟨rfl, fun q => hs q.1⟩⟩, fun fs hl => c3.trans (X0.ireturnOut hexec hret rfl (Or.inr (Or.inl rfl)) (hb hbytes d35) hl)⟩
end LEq
theorem Cod.ty {cd : Int32} {n : Nat} {f : Nat → Int32} {V : Cell} (h : Cod cd n f V) : Typed .byte V := fun i v hv => by
  have hi : i < V.slots.size := (Array.getElem?_eq_some_iff.mp hv).1
  rcases h with ⟨-, k1, k2⟩ | ⟨-, k1, k2, -⟩
  · rw [(k2 i (by omega)).1] at hv; cases hv; exact fits_lo8 _
  · rcases Nat.mod_two_eq_zero_or_one i with e | e
    · obtain ⟨j, rfl⟩ : ∃ j, i = 2 * j := ⟨i / 2, by omega⟩
      rw [(k2 j (by omega)).1] at hv; cases hv; exact fits_lo8 _
    · obtain ⟨j, rfl⟩ : ∃ j, i = 2 * j + 1 := ⟨i / 2, by omega⟩
      rw [(k2 j (by omega)).2] at hv; cases hv; exact fits_lo8 _
/-- the same text -/
def SameT (n : Nat) (f : Nat → Int32) (k : Nat) (g : Nat → Int32) : Prop := n = k ∧ ∀ j, j < n → f j = g j
theorem lo8_inj {x y : Int32} (h0 : ¬ x < 0) (h1 : ¬ 255 < x) (k0 : ¬ y < 0) (k1 : ¬ 255 < y) (h : lo8 x = lo8 y) : x = y := by
  rw [← lo8_mask h0 h1, ← lo8_mask k0 k1, h]
/-- arrays coded by one coder are equal just where the texts are -/
theorem Cod.eqv {cd : Int32} {n k : Nat} {f g : Nat → Int32} {V V' : Cell} (h : Cod cd n f V) (h' : Cod cd k g V') (hf : ∀ j, j < n → ¬ f j < 0 ∧ ¬ 65535 < f j) (hg : ∀ j, j < k → ¬ g j < 0 ∧ ¬ 65535 < g j) : EqC V V' ↔ SameT n f k g := by
  have yvv : ∀ {W : Cell} {i : Nat} {x : Int32}, W.slots[i]? = some (.int x) → yv W i = x := fun q => by unfold yv; rw [q]
  rcases h with ⟨rfl, k1, k2⟩ | ⟨rfl, k1, k2, -⟩
  · rcases h' with ⟨-, m1, m2⟩ | ⟨e, -⟩
    · constructor
      · rintro ⟨e1, e2⟩
        refine ⟨by omega, fun j hj => ?_⟩
        have q := e2 j (by omega)
        rw [yvv (k2 j hj).1, yvv (m2 j (by omega)).1] at q
        exact lo8_inj (hf j hj).1 (k2 j hj).2 (hg j (by omega)).1 (m2 j (by omega)).2 q
      · rintro ⟨rfl, e2⟩
        refine ⟨by omega, fun j hj => ?_⟩
        rw [yvv (k2 j (by omega)).1, yvv (m2 j (by omega)).1, e2 j (by omega)]
    · exact absurd e (by decide)
  · rcases h' with ⟨e, -⟩ | ⟨-, m1, m2, -⟩
    · exact absurd e (by decide)
    · constructor
      · rintro ⟨e1, e2⟩
        refine ⟨by omega, fun j hj => ?_⟩
        have q1 := e2 (2 * j) (by omega)
        have q2 := e2 (2 * j + 1) (by omega)
        rw [yvv (k2 j hj).1, yvv (m2 j (by omega)).1] at q1
        rw [yvv (k2 j hj).2, yvv (m2 j (by omega)).2] at q2
        rw [← pair_says (hf j hj).1 (hf j hj).2, ← pair_says (hg j (by omega)).1 (hg j (by omega)).2, q1, q2]
      · rintro ⟨rfl, e2⟩
        refine ⟨by omega, fun i hi => ?_⟩
        rcases Nat.mod_two_eq_zero_or_one i with e | e
        · obtain ⟨j, rfl⟩ : ∃ j, i = 2 * j := ⟨i / 2, by omega⟩
          rw [yvv (k2 j (by omega)).1, yvv (m2 j (by omega)).1, e2 j (by omega)]
        · obtain ⟨j, rfl⟩ : ∃ j, i = 2 * j + 1 := ⟨i / 2, by omega⟩
          rw [yvv (k2 j (by omega)).2, yvv (m2 j (by omega)).2, e2 j (by omega)]
/-- two codings differ: so do the texts -/
theorem Cod.dif {cd cd' : Int32} {n k : Nat} {f g : Nat → Int32} {V V' : Cell} (h : Cod cd n f V) (h' : Cod cd' k g V') (hne : ¬ cd = cd') : ¬ SameT n f k g := by
  rintro ⟨rfl, e⟩
  rcases h with ⟨rfl, -, k2⟩ | ⟨rfl, -, -, j, hj, hw⟩
  · rcases h' with ⟨rfl, -⟩ | ⟨-, -, -, j, hj, hw⟩
    · exact hne rfl
    · exact (k2 j hj).2 (by rw [e j hj]; exact hw)
  · rcases h' with ⟨-, -, m2⟩ | ⟨rfl, -⟩
    · exact (m2 j hj).2 (by rw [← e j hj]; exact hw)
    · exact hne rfl
/-- an object of exactly C is an instance of C -/
theorem cinst {p : Program} {l : Launch} {e : Env} {R : Room} {s : State} {m : MethodId} {args : Array Value} {below : List Frame} {meth : Method} {c : Code} {T : State} {locs : List Loc} {cells slots : Nat} (X : Stand p l e R s m args below meth c T locs cells slots) (hexec : p.tables.exec = Jvm.exec) {own C : String} {index : Nat} (hown : s.vm.findClass own = some m.cls) (hlink : (Cond.classLink own index C).before args s = true) {a : Addr} (hE : Exact C a T)
    {g : JFrame} (hg : g.method = m) {rest : List Value} (hstack : g.stack = .ref a :: rest) (hdg : decode c.code g.pc = .ok (.instanceof index, 3)) :
    ∃ T', Stand p l e R s m args below meth c T' locs cells slots ∧ T'.heap = T.heap ∧ ∀ target, Steps p.tables e below (T'.setTop { g with pc := g.pc + 3, stack := .int 1 :: rest }) target → Steps p.tables e below (T.setTop g) target := by
  obtain ⟨cB, h1, D, h2, h3, h4⟩ := hE
  have h1' : s.vm.findClass C = some cB := by rw [← X.warmed.alike.findClass]; exact h1
  obtain ⟨vm', X', st⟩ := X.instanceofYes hexec hown hlink h2 h4 h1' (by rw [h3]; exact Jvm.Free.SB.assignable_self _ _) hg hstack hdg
  exact ⟨_, X', rfl, st⟩
theorem cself {p : Program} {l : Launch} {e : Env} {R : Room} {s : State} {m : MethodId} {args : Array Value} {below : List Frame} {meth : Method} {c : Code} {T : State} {locs : List Loc} {cells slots : Nat} (X : Stand p l e R s m args below meth c T locs cells slots) (hexec : p.tables.exec = Jvm.exec) {own C : String} {index : Nat} (hown : s.vm.findClass own = some m.cls) (hlink : (Cond.classLink own index C).before args s = true) {a : Addr} (hE : Exact C a T)
    {g : JFrame} (hg : g.method = m) {rest : List Value} (hstack : g.stack = .ref a :: rest) (hdg : decode c.code g.pc = .ok (.checkcast index, 3)) :
    ∃ T', Stand p l e R s m args below meth c T' locs cells slots ∧ T'.heap = T.heap ∧ ∀ target, Steps p.tables e below (T'.setTop { g with pc := g.pc + 3, stack := .ref a :: rest }) target → Steps p.tables e below (T.setTop g) target := by
  obtain ⟨cB, h1, D, h2, h3, h4⟩ := hE
  have h1' : s.vm.findClass C = some cB := by rw [← X.warmed.alike.findClass]; exact h1
  obtain ⟨vm', X', st⟩ := X.checkcastYes hexec hown hlink h2 h4 h1' (by rw [h3]; exact Jvm.Free.SB.assignable_self _ _) hg hstack hdg
  exact ⟨_, X', rfl, fun t h => st t (by rw [← hstack] at h; exact h)⟩
namespace SEq
def yN : MethodName := ⟨"java/lang/String", "equals", "(Ljava/lang/Object;)Z"⟩
abbrev yB : ByteArray := jdk_42_method_66_code
theorem d0 : decode yB 0 = .ok (.aload_n 0, 1) := by decide +kernel
theorem d1 : decode yB 1 = .ok (.aload_n 1, 1) := by decide +kernel
theorem d2 : decode yB 2 = .ok (.if_acmp (.ne) 5, 3) := by decide +kernel
theorem d5 : decode yB 5 = .ok (.iconst 1, 1) := by decide +kernel
theorem d6 : decode yB 6 = .ok (.ireturn, 1) := by decide +kernel
theorem d7 : decode yB 7 = .ok (.aload_n 1, 1) := by decide +kernel
theorem d8 : decode yB 8 = .ok (.instanceof 10, 3) := by decide +kernel
theorem d11 : decode yB 11 = .ok (.ifCond (.eq) 43, 3) := by decide +kernel
theorem d14 : decode yB 14 = .ok (.aload_n 1, 1) := by decide +kernel
theorem d15 : decode yB 15 = .ok (.checkcast 10, 3) := by decide +kernel
theorem d18 : decode yB 18 = .ok (.astore_n 2, 1) := by decide +kernel
theorem d19 : decode yB 19 = .ok (.getstatic 38, 3) := by decide +kernel
theorem d22 : decode yB 22 = .ok (.ifCond (.eq) 14, 3) := by decide +kernel
theorem d25 : decode yB 25 = .ok (.aload_n 0, 1) := by decide +kernel
theorem d26 : decode yB 26 = .ok (.getfield 15, 3) := by decide +kernel
theorem d29 : decode yB 29 = .ok (.aload_n 2, 1) := by decide +kernel
theorem d30 : decode yB 30 = .ok (.getfield 15, 3) := by decide +kernel
theorem d33 : decode yB 33 = .ok (.if_icmp (.ne) 21, 3) := by decide +kernel
theorem d36 : decode yB 36 = .ok (.aload_n 0, 1) := by decide +kernel
theorem d37 : decode yB 37 = .ok (.getfield 9, 3) := by decide +kernel
theorem d40 : decode yB 40 = .ok (.aload_n 2, 1) := by decide +kernel
theorem d41 : decode yB 41 = .ok (.getfield 9, 3) := by decide +kernel
theorem d44 : decode yB 44 = .ok (.invokestatic 541, 3) := by decide +kernel
theorem d47 : decode yB 47 = .ok (.ifCond (.eq) 7, 3) := by decide +kernel
theorem d50 : decode yB 50 = .ok (.iconst 1, 1) := by decide +kernel
theorem d51 : decode yB 51 = .ok (.goto 4, 3) := by decide +kernel
theorem d54 : decode yB 54 = .ok (.iconst 0, 1) := by decide +kernel
theorem d55 : decode yB 55 = .ok (.ireturn, 1) := by decide +kernel
def site : List Cond := [.classLink "java/lang/String" 10 "java/lang/String", .fieldLink "java/lang/String" 38 "java/lang/String" "COMPACT_STRINGS" "Z", .fieldLink "java/lang/String" 15 "java/lang/String" "coder" "B", .fieldLink "java/lang/String" 9 "java/lang/String" "value" "[B", LEq.tab] ++ staticW "java/lang/String" 541 LEq.yN
def tab : Cond := tabOf yN yB 3 (some .boolean) site
def P (x t : Addr) (V : Cell) (cd : Int32) (n : Nat) (f : Nat → Int32) (y t' : Addr) (V' : Cell) (cd' : Int32) (k : Nat) (g : Nat → Int32) (z : Int32) (args : Array Value) (s : State) : Prop := args = #[.ref x, .ref y] ∧ Txt x t V cd n f s ∧ Txt y t' V' cd' k g s ∧ StaticIs s "java/lang/String" "COMPACT_STRINGS" "Z" (.int z) ∧ ¬ z = 0
/-- equals(Object) of two Strings: whether the texts are the same -/
theorem law (l : Launch) (x t : Addr) (V : Cell) (cd : Int32) (n : Nat) (f : Nat → Int32) (y t' : Addr) (V' : Cell) (cd' : Int32) (k : Nat) (g : Nat → Int32) (z : Int32) : Law l yN 2 1 1 14 yB 3 (some .boolean) site (P x t V cd n f y t' V' cd' k g z) (Says01 (SameT n f k g)) [] 0 0 := by
  refine Law.of_walk (plainFor_of_name (by decide +kernel)) (by decide +kernel) (by decide +kernel) (by decide) (fun _ _ h => by rw [h.1]; rfl) (fun _ U U' hal hh h => ⟨h.1, h.2.1.mv hal hh, h.2.2.1.mv hal hh, h.2.2.2.1.there hal hh, h.2.2.2.2⟩) (fun r U U' V V' h1 hal h2 h => Says01.mv r U U' V V' h1 hal h2 h) ?_
  intro p e s m args below meth c s₁ X0 hexec hbytes hml hret hlk hnm hown hh0 W hP
  obtain ⟨rfl, hx, hy, s1, hz⟩ := hP
  have c1 : Steps p.tables e below (s₁.setTop (entryFrame m #[.ref x, .ref y] 3)) (s₁.setTop (mkF m 2 #[.val (.ref x), .val (.ref y), .unset] [.ref y, .ref x])) := Steps.trans (entry rfl) (by
    show Steps p.tables e below (s₁.setTop (mkF m 0 #[.val (.ref x), .val (.ref y), .unset] [])) _
    refine XS.aloadN X0.here hexec rfl (hb hbytes d0) rfl rfl ?_
    refine XS.aloadN X0.here hexec rfl (hb hbytes d1) rfl rfl ?_
    exact Steps.refl _)
  by_cases hxy : x = y
  · have c2 : Steps p.tables e below (s₁.setTop (entryFrame m #[.ref x, .ref y] 3)) (s₁.setTop (mkF m 6 #[.val (.ref x), .val (.ref y), .unset] [.int 1])) := c1.trans (by
      refine acmpNo X0.here hexec rfl (hb hbytes d2) rfl rfl rfl (by simp [acmp, hxy]) ?_
      refine iconstV X0.here hexec rfl 1 (hb hbytes d5) (by decide) ?_
      exact Steps.refl _)
    subst hxy
    have ec : cd = cd' := by
      obtain ⟨D, fd, a1, a2, a3⟩ := hx.2.2.1
      obtain ⟨D', fd', b1, b2, b3⟩ := hy.2.2.1
      cases a1.symm.trans b1
      obtain ⟨q1, q2, q3, q4⟩ := a2.1
      obtain ⟨r1, r2, r3, r4⟩ := b2.1
      cases q4.symm.trans r4
      cases a3.symm.trans b3; rfl
    have et : t = t' := by
      obtain ⟨D, fd, a1, a2, a3⟩ := hx.2.1
      obtain ⟨D', fd', b1, b2, b3⟩ := hy.2.1
      cases a1.symm.trans b1
      obtain ⟨q1, q2, q3, q4⟩ := a2.1
      obtain ⟨r1, r2, r3, r4⟩ := b2.1
      cases q4.symm.trans r4
      cases a3.symm.trans b3; rfl
    subst ec et
    have ev : V = V' := by cases hx.2.2.2.1.1.symm.trans hy.2.2.2.1.1; rfl
    subst ev
    have hs : SameT n f k g := (Cod.eqv hx.2.2.2.2.1 hy.2.2.2.2.1 hx.2.2.2.2.2 hy.2.2.2.2.2).mp ⟨rfl, fun _ _ => rfl⟩
    exact ⟨s₁, some (.int 1), _, _, _, X0, rfl, rfl, rfl, (fun h => by cases h), ⟨1, rfl, hh0, Or.inl ⟨rfl, hs⟩⟩, fun fs hl => c2.trans (X0.ireturnOut hexec hret rfl (Or.inr (Or.inl rfl)) (hb hbytes d6) hl)⟩
  · have c2 : Steps p.tables e below (s₁.setTop (entryFrame m #[.ref x, .ref y] 3)) (s₁.setTop (mkF m 8 #[.val (.ref x), .val (.ref y), .unset] [.ref y])) := c1.trans (by
      refine acmpYes X0.here hexec rfl (pc0 := 2) rfl (hb hbytes d2) rfl rfl rfl (by simp [acmp, hxy]) (by decide) rfl ?_
      refine XS.aloadN X0.here hexec rfl (hb hbytes d7) rfl rfl ?_
      exact Steps.refl _)
    obtain ⟨T3, X3, q3, st3⟩ := cinst X0 hexec hown (wk W (.classLink "java/lang/String" 10 "java/lang/String")) (hy.mv X0.warmed.alike hh0).1 (g := (mkF m 8 #[.val (.ref x), .val (.ref y), .unset] [.ref y])) rfl (rest := []) rfl (hb hbytes d8)
    have hh3 := q3.trans hh0
    have c4 : Steps p.tables e below (s₁.setTop (entryFrame m #[.ref x, .ref y] 3)) (T3.setTop (mkF m 15 #[.val (.ref x), .val (.ref y), .unset] [.ref y])) := (c2.trans (st3 _ (Steps.refl _))).trans (by
      refine XS.ifNo X3.here hexec rfl (hb hbytes d11) rfl (i0_eq_f (by decide)) ?_
      refine XS.aloadN X3.here hexec rfl (hb hbytes d14) rfl rfl ?_
      exact Steps.refl _)
    obtain ⟨T5, X5, q5, st5⟩ := cself X3 hexec hown (wk W (.classLink "java/lang/String" 10 "java/lang/String")) (hy.mv X3.warmed.alike hh3).1 (g := (mkF m 15 #[.val (.ref x), .val (.ref y), .unset] [.ref y])) rfl (rest := []) rfl (hb hbytes d15)
    have hh5 := q5.trans hh3
    have c6 : Steps p.tables e below (s₁.setTop (entryFrame m #[.ref x, .ref y] 3)) (T5.setTop (mkF m 19 #[.val (.ref x), .val (.ref y), .val (.ref y)] [])) := (c4.trans (st5 _ (Steps.refl _))).trans (by
      refine XS.astoreN X5.here hexec rfl (hb hbytes d18) rfl rfl rfl ?_
      exact Steps.refl _)
    obtain ⟨T7, X7, q7, st7⟩ := X5.sget hexec hown (wk W (.fieldLink "java/lang/String" 38 "java/lang/String" "COMPACT_STRINGS" "Z")) s1 (fun _ _ h => by rw [hh5]; exact h) (g := (mkF m 19 #[.val (.ref x), .val (.ref y), .val (.ref y)] [])) rfl (hb hbytes d19)
    have hh7 := q7.trans hh5
    have c8 : Steps p.tables e below (s₁.setTop (entryFrame m #[.ref x, .ref y] 3)) (T7.setTop (mkF m 26 #[.val (.ref x), .val (.ref y), .val (.ref y)] [.ref x])) := (c6.trans (st7 _ (Steps.refl _))).trans (by
      refine XS.ifNo X7.here hexec rfl (hb hbytes d22) rfl (i0_eq_f hz) ?_
      refine XS.aloadN X7.here hexec rfl (hb hbytes d25) rfl rfl ?_
      exact Steps.refl _)
    obtain ⟨T9, X9, q9, st9⟩ := X7.hget hexec hown (wk W (.fieldLink "java/lang/String" 15 "java/lang/String" "coder" "B")) (hx.mv X7.warmed.alike hh7).2.2.1 (g := (mkF m 26 #[.val (.ref x), .val (.ref y), .val (.ref y)] [.ref x])) rfl (rest := []) rfl (hb hbytes d26)
    have hh9 := q9.trans hh7
    have c10 : Steps p.tables e below (s₁.setTop (entryFrame m #[.ref x, .ref y] 3)) (T9.setTop (mkF m 30 #[.val (.ref x), .val (.ref y), .val (.ref y)] [.ref y, .int cd])) := (c8.trans (st9 _ (Steps.refl _))).trans (by
      refine XS.aloadN X9.here hexec rfl (hb hbytes d29) rfl rfl ?_
      exact Steps.refl _)
    obtain ⟨T11, X11, q11, st11⟩ := X9.hget hexec hown (wk W (.fieldLink "java/lang/String" 15 "java/lang/String" "coder" "B")) (hy.mv X9.warmed.alike hh9).2.2.1 (g := (mkF m 30 #[.val (.ref x), .val (.ref y), .val (.ref y)] [.ref y, .int cd])) rfl (rest := [.int cd]) rfl (hb hbytes d30)
    have hh11 := q11.trans hh9
    have c12 : Steps p.tables e below (s₁.setTop (entryFrame m #[.ref x, .ref y] 3)) (T11.setTop (mkF m 33 #[.val (.ref x), .val (.ref y), .val (.ref y)] [.int cd', .int cd])) := c10.trans (st11 _ (Steps.refl _))
    by_cases hcd : cd = cd'
    · subst hcd
      have c13 : Steps p.tables e below (s₁.setTop (entryFrame m #[.ref x, .ref y] 3)) (T11.setTop (mkF m 37 #[.val (.ref x), .val (.ref y), .val (.ref y)] [.ref x])) := c12.trans (by
        refine XS.icmpNo X11.here hexec rfl (hb hbytes d33) rfl (ii_ne_f rfl) ?_
        refine XS.aloadN X11.here hexec rfl (hb hbytes d36) rfl rfl ?_
        exact Steps.refl _)
      obtain ⟨T14, X14, q14, st14⟩ := X11.hget hexec hown (wk W (.fieldLink "java/lang/String" 9 "java/lang/String" "value" "[B")) (hx.mv X11.warmed.alike hh11).2.1 (g := (mkF m 37 #[.val (.ref x), .val (.ref y), .val (.ref y)] [.ref x])) rfl (rest := []) rfl (hb hbytes d37)
      have hh14 := q14.trans hh11
      have c15 : Steps p.tables e below (s₁.setTop (entryFrame m #[.ref x, .ref y] 3)) (T14.setTop (mkF m 41 #[.val (.ref x), .val (.ref y), .val (.ref y)] [.ref y, .ref t])) := (c13.trans (st14 _ (Steps.refl _))).trans (by
        refine XS.aloadN X14.here hexec rfl (hb hbytes d40) rfl rfl ?_
        exact Steps.refl _)
      obtain ⟨T16, X16, q16, st16⟩ := X14.hget hexec hown (wk W (.fieldLink "java/lang/String" 9 "java/lang/String" "value" "[B")) (hy.mv X14.warmed.alike hh14).2.1 (g := (mkF m 41 #[.val (.ref x), .val (.ref y), .val (.ref y)] [.ref y, .ref t])) rfl (rest := [.ref t]) rfl (hb hbytes d41)
      have hh16 := q16.trans hh14
      have c17 : Steps p.tables e below (s₁.setTop (entryFrame m #[.ref x, .ref y] 3)) (T16.setTop (mkF m 44 #[.val (.ref x), .val (.ref y), .val (.ref y)] [.ref t', .ref t])) := c15.trans (st16 _ (Steps.refl _))
      obtain ⟨v18, T18, X18, E18, g18⟩ := X16.callS hexec (LEq.law l t V t' V') hown (wks W (staticW "java/lang/String" 541 LEq.yN)) (wk W LEq.tab) (W := 0) (Nat.le_of_ble_eq_true rfl) (Nat.le_of_ble_eq_true rfl) (Nat.le_refl _) (Nat.le_refl _) (g := (mkF m 44 #[.val (.ref x), .val (.ref y), .val (.ref y)] [.ref t', .ref t])) rfl (by rw [hml]; rfl) c17 (argsL := [.ref t, .ref t']) (rest := []) rfl rfl (by show 2 * 0 + 0 ≤ _; decide) (hb hbytes d44) (⟨rfl, hx.2.2.2.1.mv X16.warmed.alike hh16, hx.2.2.2.2.1.ty, hy.2.2.2.1.mv X16.warmed.alike hh16, hy.2.2.2.2.1.ty⟩)
      obtain ⟨v, rfl, q18, hv⟩ := E18
      have iff := Cod.eqv hx.2.2.2.2.1 hy.2.2.2.2.1 hx.2.2.2.2.2 hy.2.2.2.2.2
      rcases hv with ⟨rfl, he⟩ | ⟨rfl, he⟩
      · have c19 : Steps p.tables e below (s₁.setTop (entryFrame m #[.ref x, .ref y] 3)) (T18.setTop (mkF m 55 #[.val (.ref x), .val (.ref y), .val (.ref y)] [.int 1])) := Steps.trans g18 (by
          refine XS.ifNo X18.here hexec rfl (hb hbytes d47) rfl (i0_eq_f (by decide)) ?_
          refine iconstV X18.here hexec rfl 1 (hb hbytes d50) (by decide) ?_
          refine XS.goto X18.here hexec rfl (pc0 := 51) rfl (hb hbytes d51) (by decide) rfl ?_
          exact Steps.refl _)
        exact ⟨T18, some (.int 1), _, _, _, X18, rfl, rfl, rfl, (fun h => by cases h), ⟨1, rfl, q18.trans hh16, Or.inl ⟨rfl, iff.mp he⟩⟩, fun fs hl => c19.trans (X18.ireturnOut hexec hret rfl (Or.inr (Or.inl rfl)) (hb hbytes d55) hl)⟩
      · have c19 : Steps p.tables e below (s₁.setTop (entryFrame m #[.ref x, .ref y] 3)) (T18.setTop (mkF m 55 #[.val (.ref x), .val (.ref y), .val (.ref y)] [.int 0])) := Steps.trans g18 (by
          refine XS.ifYes X18.here hexec rfl (pc0 := 47) rfl (hb hbytes d47) rfl (i0_eq_t rfl) (by decide) rfl ?_
          refine iconstV X18.here hexec rfl 0 (hb hbytes d54) (by decide) ?_
          exact Steps.refl _)
        exact ⟨T18, some (.int 0), _, _, _, X18, rfl, rfl, rfl, (fun h => by cases h), ⟨0, rfl, q18.trans hh16, Or.inr ⟨rfl, fun q => he (iff.mpr q)⟩⟩, fun fs hl => c19.trans (X18.ireturnOut hexec hret rfl (Or.inr (Or.inl rfl)) (hb hbytes d55) hl)⟩
    · have c13 : Steps p.tables e below (s₁.setTop (entryFrame m #[.ref x, .ref y] 3)) (T11.setTop (mkF m 55 #[.val (.ref x), .val (.ref y), .val (.ref y)] [.int 0])) := c12.trans (by
        refine XS.icmpYes X11.here hexec rfl (pc0 := 33) rfl (hb hbytes d33) rfl (ii_ne_t hcd) (by decide) rfl ?_
        refine iconstV X11.here hexec rfl 0 (hb hbytes d54) (by decide) ?_
        exact Steps.refl _)
      exact ⟨T11, some (.int 0), _, _, _, X11, rfl, rfl, rfl, (fun h => by cases h), ⟨0, rfl, hh11, Or.inr ⟨rfl, Cod.dif hx.2.2.2.2.1 hy.2.2.2.2.1 hcd⟩⟩, fun fs hl => c13.trans (X11.ireturnOut hexec hret rfl (Or.inr (Or.inl rfl)) (hb hbytes d55) hl)⟩
theorem pays {l : Launch} {R : Room} {p : Program} {e : Env} {below : List Frame} {s : State} {sargs : Array Value} {len W : Nat} (x t : Addr) (V : Cell) (cd : Int32) (n : Nat) (f : Nat → Int32) (y t' : Addr) (V' : Cell) (cd' : Int32) (k : Nat) (g : Nat → Int32) (z : Int32) (htab : tab.before sargs s = true) (hfr : 2 ≤ R.frames) (hlo : W + 28 ≤ R.locals) :
    Back l R p e below s sargs yN len W (fun A₁ a₁ => A₁.cells + 0 ≤ R.cells ∧ A₁.slots + 0 ≤ R.slots ∧ P x t V cd n f y t' V' cd' k g z a₁ A₁.U) (fun A₁ _ v₁ B₁ => Says01 (SameT n f k g) v₁ A₁.U B₁.U ∧ B₁.locs = A₁.locs ++ [] ∧ B₁.cells = A₁.cells + 0 ∧ B₁.slots = A₁.slots + 0) :=
  (law l x t V cd n f y t' V' cd' k g z).pays htab hfr (by omega)
end SEq
end StrChars
namespace StrChars.Road
open Jvm Sem ClassFile Op Lib Jvm.Stand Jvm.Free Jvm.Free.XT
open Jvm.Lib.Cold (StaticIs)
/-- the words of String.equals(Object) -/
abbrev wordsEq : List Jvm.Cond := [.code SEq.yN SEq.yB 3 (some .boolean), .initialized ST, .classLink ST 10 ST, .fieldLink ST 38 ST "COMPACT_STRINGS" "Z", .fieldLink ST 15 ST "coder" "B", .fieldLink ST 9 ST "value" "[B", .methodLink ST 541 LEq.yN, .static LEq.yN, .code LEq.yN LEq.yB 3 (some .boolean), .initialized "java/lang/StringLatin1"]
theorem tabEq_of {a : Array Value} {s : State} (h : ∀ w ∈ wordsEq, w.before a s = true) : SEq.tab.before a s = true := by
  have hl : LEq.tab.before a s = true := unparts (wk h (.code LEq.yN LEq.yB 3 (some .boolean))) (wks h (.initialized LEq.yN.cls :: LEq.site))
  have q := consq hl h
  exact unparts (wk q (.code SEq.yN SEq.yB 3 (some .boolean))) (wks q (.initialized SEq.yN.cls :: SEq.site))
theorem movedEq {Z s : State} {a0 args : Array Value} (hZ : Z.Warmed39 s.vm) (hw : ∀ d ∈ wordsEq, d.before a0 Z = true) : ∀ d ∈ wordsEq, d.before args s = true := fun d hd => by
  have t : ∀ d ∈ wordsEq, (d.onTables && d.keepsFace) = true := by decide +kernel
  exact RoadKit.mv hZ (hw d hd) (t d hd)
/-- the road's facts of a String, as the laws ask it -/
theorem txt_of {Z U : State} {a0 : Array Value} {kI : Nat} (wi : (Jvm.Cond.instantiable ST kI).before a0 Z = true) (al : Z.vm.Alike U.vm) {x t : Addr} {kb : ClassId} {cs : List Int32} {cd N2 : Int32} {vs : List Value} (E : RoadKit.Exa Z U.heap x ST) (V : RoadKit.Fld Z U.heap x ST "value" "[B" (.ref t)) (C : RoadKit.Fld Z U.heap x ST "coder" "B" (.int cd)) (K : RoadKit.Arv Z U.heap t kb .byte N2 vs (.int 0)) (hc : CodA cs cd N2 vs) (hb : ∀ c ∈ cs, ¬ c < 0 ∧ ¬ (65535 : Int32) < c) (l2 : cs.length ≤ 4000) :
    ∃ A, Txt x t A cd cs.length (fun j => cs.getD j 0) U := by
  obtain ⟨A, K1, K2, K3, K4, K5, K6⟩ := K
  have hcod := hc.cod (by omega) K3 K5
  obtain ⟨D, fV, fC, hB, F1, F2, g1, g2, -, -⟩ := strObj wi al E V C
  exact ⟨A, ⟨_, hB.2.2.1, D, hB.1, rfl, by cases q : D.vm <;> first | rfl | exact absurd q (hB.2.1.2 _)⟩, Has.of hB F1 g1, Has.of hB F2 g2, ⟨K1.1, State.isArrayOf_alike al K1.2.1, K1.2.2, by rcases hcod with ⟨-, q, -⟩ | ⟨-, q, -⟩ <;> omega⟩, hcod, fun j hj => by
    have e : cs.getD j 0 = cs[j] := by simp [List.getD_eq_getElem?_getD, hj]
    show ¬ cs.getD j 0 < 0 ∧ ¬ 65535 < cs.getD j 0
    rw [e]; exact hb _ (List.getElem_mem _)⟩
theorem same_list (cs ds : List Int32) : SameT cs.length (fun j => cs.getD j 0) ds.length (fun j => ds.getD j 0) ↔ cs = ds := by
  constructor
  · rintro ⟨e, q⟩
    refine List.ext_getElem e fun j h1 h2 => ?_
    have := q j h1
    simpa [List.getD_eq_getElem?_getD, h1, h2] using this
  · rintro rfl
    exact ⟨rfl, fun _ _ => rfl⟩
/-- **equals(Object) OF TWO SUCH STRINGS**: 1 just where the chars are the same -/
theorem eqW {p : Program} {l : Launch} {e : Env} {R : Room} {s : State} {args : Array Value} {below : List Frame} {len W : Nat} {Z : State} {a0 : Array Value} {h : Heap} (hZ : Z.Warmed39 s.vm) (hw : ∀ d ∈ wordsEq, d.before a0 Z = true) {kI : Nat} (wi : (Jvm.Cond.instantiable ST kI).before a0 Z = true)
    {x t : Addr} {kb : ClassId} {cs : List Int32} {cd N2 : Int32} {vs : List Value} (E : RoadKit.Exa Z h x ST) (V : RoadKit.Fld Z h x ST "value" "[B" (.ref t)) (C : RoadKit.Fld Z h x ST "coder" "B" (.int cd)) (K : RoadKit.Arv Z h t kb .byte N2 vs (.int 0)) (hc : CodA cs cd N2 vs) (hb : ∀ c ∈ cs, ¬ c < 0 ∧ ¬ (65535 : Int32) < c) (l2 : cs.length ≤ 4000)
    {y t' : Addr} {kb' : ClassId} {ds : List Int32} {cd' N2' : Int32} {vs' : List Value} (E' : RoadKit.Exa Z h y ST) (V' : RoadKit.Fld Z h y ST "value" "[B" (.ref t')) (C' : RoadKit.Fld Z h y ST "coder" "B" (.int cd')) (K' : RoadKit.Arv Z h t' kb' .byte N2' vs' (.int 0)) (hc' : CodA ds cd' N2' vs') (hb' : ∀ c ∈ ds, ¬ c < 0 ∧ ¬ (65535 : Int32) < c) (l2' : ds.length ≤ 4000)
    {z : Int32} (S : RoadKit.Sta Z h ST "COMPACT_STRINGS" "Z" (.int z)) (hz : ¬ z = 0) (hfr : 2 ≤ R.frames) (hlo : W + 28 ≤ R.locals) :
    Back l R p e below s args (⟨"java/lang/String", "equals", "(Ljava/lang/Object;)Z"⟩ : MethodName) len W (fun P a => a = #[.ref x, .ref y] ∧ P.U.heap = h ∧ P.cells + 0 ≤ R.cells ∧ P.slots + 0 ≤ R.slots)
      (fun P _ v B => ∃ L, (((v = some (.int 1) ∧ cs = ds) ∨ (v = some (.int 0) ∧ ¬ cs = ds)) ∧ L = [] ∧ B.U.heap = h) ∧ B.locs = P.locs ++ L ∧ B.cells = P.cells + 0 ∧ B.slots = P.slots + 0) := by
  intro m meth c P g ig mk a X hg hsize hdg hW hn hp'
  obtain ⟨rfl, rfl, r1, r2⟩ := hp'
  have al : Z.vm.Alike P.U.vm := hZ.alike.trans X.warmed.alike
  obtain ⟨A, hx⟩ := txt_of wi al E V C K hc hb l2
  obtain ⟨A', hy⟩ := txt_of wi al E' V' C' K' hc' hb' l2'
  obtain ⟨v, B, X', ⟨⟨w, hv, hh, hq⟩, hl, hk, hs⟩, st⟩ := SEq.pays x t A cd cs.length (fun j => cs.getD j 0) y t' A' cd' ds.length (fun j => ds.getD j 0) z (tabEq_of (movedEq hZ hw)) hfr hlo m meth c P g ig mk _ X hg hsize hdg hW hn ⟨r1, r2, rfl, hx, hy, sta_is al S, hz⟩
  refine ⟨v, B, X', ⟨[], ⟨?_, rfl, hh⟩, hl, hk, hs⟩, st⟩
  rcases hq with ⟨rfl, q⟩ | ⟨rfl, q⟩
  · exact Or.inl ⟨hv, (same_list cs ds).mp q⟩
  · exact Or.inr ⟨hv, fun e => q ((same_list cs ds).mpr e)⟩
end StrChars.Road
namespace StrChars.Road
open Jvm Sem ClassFile Op Lib Jvm.Stand Jvm.Free Jvm.Free.XT
open Jvm.Lib.Cold (StaticIs)
/-- what backV says of its String, as the contracts of this text ask it: cs's low bytes, coder 0 -/
theorem codOf {cs : List Int32} {n : Nat} (hn : cs.length = n) (hb : ∀ c ∈ cs, ¬ 255 < c) : CodA cs 0 (Int32.ofNat n) ((cs.map lo8).map Value.int) := Or.inl ⟨rfl, by rw [hn], by simp [List.map_map, Function.comp_def], hb⟩
end StrChars.Road
end Jvm.Pilot.@@N@@

namespace Jvm.Pilot.@@N@@
open Jvm Jvm.ClassFile Sem Op Lib Jvm.Free Jvm.Stand Jvm.LawKit Jvm.RoadKit Bundle Jvm.Pilot.@@N@@.Jvm.D
/-! A walk by continuations: own_Go says that from here the body runs to an end that P allows. -/
def own_Go (p : Program) (e : Env) (below : List Frame) (P : Outcome → State → Prop) (T : State) (g : JFrame) : Prop :=
  ∃ s₂ o, Steps p.tables e below (T.setTop g) s₂ ∧ s₂.status = .running ∧ Ended s₂ below o ∧ P o s₂
abbrev own_End (s : State) (Q : Option Value → Heap → List Loc → Prop) (C S : Nat) : Outcome → State → Prop := fun o s₂ => ∃ v L, o = .returned v ∧ Q v s₂.heap L ∧ FrameEnd s o s₂ L C S
theorem own_pc {m : MethodId} {pc : Nat} {Ls : Array Slot} {st : List Value} {off : Int} (h : 0 ≤ (pc : Int) + off) : 0 ≤ ((mkF m pc Ls st).pc : Int) + off := h
theorem own_cut {J G : Prop} (h : J) (k : J → G) : G := k h
section Own
variable {p : Program} {l : Launch} {e : Env} {R : Room} {s : State} {m : MethodId} {args : Array Value} {below : List Frame} {meth : Method} {c : Code} {T T' : State} {locs : List Loc} {cells slots : Nat} {P : Outcome → State → Prop} {g g' : JFrame} {Q : Option Value → Heap → List Loc → Prop} {C S : Nat}
theorem own_st (h : ∀ t, Steps p.tables e below (T'.setTop g') t → Steps p.tables e below (T.setTop g) t) (k : own_Go p e below P T' g') : own_Go p e below P T g := by
  obtain ⟨s₂, o, h1, r⟩ := k
  exact ⟨s₂, o, h _ h1, r⟩
theorem own_entry (q : g = g') (k : own_Go p e below P T g') : ∃ s₂ o, Steps p.tables e below (T.setTop g) s₂ ∧ s₂.status = .running ∧ Ended s₂ below o ∧ P o s₂ := by
  subst q
  exact k
theorem own_join {α : Type} {F : α → Prop} {g' : α → JFrame} {T' : State} (k : ∀ b, F b → own_Go p e below P T' (g' b)) (j : (∀ b, F b → own_Go p e below P T' (g' b)) → own_Go p e below P T g) : own_Go p e below P T g := j k
theorem own_joinT {S0 : State} {h : Heap} {α : Type} {F : α → Prop} {g' : α → JFrame} (X : Stand p l e R S0 m args below meth c T locs cells slots) (eT : T.heap = h)
    (k : ∀ b T', F b → Stand p l e R S0 m args below meth c T' locs cells slots → T'.heap = h → own_Go p e below P T' (g' b)) (j : (∀ b T', F b → Stand p l e R S0 m args below meth c T' locs cells slots → T'.heap = h → own_Go p e below P T' (g' b)) → own_Go p e below P T g) : own_Go p e below P T g := j k
theorem own_leave (X : Stand p l e R s m args below meth c T locs cells slots) (hlk : meth.locks = false) {v : Option Value} (hv : meth.sig.returnType = none → v = none)
    (k : ∀ fs, (∀ (f : JFrame) (acts : List Action), f.method = m → f.locked = none → f.entered = [] → (doReturn e (T.setTop f) acts v).1 = T.setFrames fs) → Steps p.tables e below (T.setTop g) (T.setFrames fs))
    (hQ : Q v T.heap locs) (hC : cells ≤ C) (hS : slots ≤ S) : own_Go p e below (own_End s Q C S) T g := by
  obtain ⟨fs, hr, hrun, hended, hW, hsame⟩ := X.leave hv hlk
  exact ⟨_, _, k fs hr, hrun, hended, _, _, rfl, hQ, ⟨_, rfl⟩, hW, hsame.mono hC hS⟩
theorem own_retN (X : Stand p l e R s m args below meth c T locs cells slots) (hx : p.tables.exec = Jvm.exec) (hlk : meth.locks = false) {pc : Nat} {Ls : Array Slot} {z : Int32} {t : FieldType} {rest : List Value} (hret : meth.sig.returnType = some t) (ht : t = .boolean ∨ t = .byte ∨ t = .char ∨ t = .short)
    (hd : decode c.code pc = .ok (.ireturn, 1)) (hQ : Q (some (.int (nar t z))) T.heap locs) (hC : cells ≤ C) (hS : slots ≤ S) : own_Go p e below (own_End s Q C S) T (mkF m pc Ls (.int z :: rest)) :=
  own_leave X hlk (fun h => by rw [hret] at h; cases h) (fun fs hr => retN X hx hret ht hd hr) hQ hC hS
theorem own_retI (X : Stand p l e R s m args below meth c T locs cells slots) (hx : p.tables.exec = Jvm.exec) (hlk : meth.locks = false) {pc : Nat} {Ls : Array Slot} {z : Int32} {rest : List Value} (hret : meth.sig.returnType = some .int)
    (hd : decode c.code pc = .ok (.ireturn, 1)) (hQ : Q (some (.int z)) T.heap locs) (hC : cells ≤ C) (hS : slots ≤ S) : own_Go p e below (own_End s Q C S) T (mkF m pc Ls (.int z :: rest)) :=
  own_leave X hlk (fun h => by rw [hret] at h; cases h) (fun fs hr => retOut X hx hret rfl (Or.inl ⟨rfl, Or.inl rfl, z, rfl⟩) hd hr) hQ hC hS
theorem own_retJ (X : Stand p l e R s m args below meth c T locs cells slots) (hx : p.tables.exec = Jvm.exec) (hlk : meth.locks = false) {pc : Nat} {Ls : Array Slot} {z : Int64} {rest : List Value} (hret : meth.sig.returnType = some .long)
    (hd : decode c.code pc = .ok (.lreturn, 1)) (hQ : Q (some (.long z)) T.heap locs) (hC : cells ≤ C) (hS : slots ≤ S) : own_Go p e below (own_End s Q C S) T (mkF m pc Ls (.long z :: rest)) :=
  own_leave X hlk (fun h => by rw [hret] at h; cases h) (fun fs hr => retOut X hx hret rfl (Or.inr (Or.inl ⟨rfl, rfl, z, rfl⟩)) hd hr) hQ hC hS
theorem own_narrow_ref {t : FieldType} {w : Value} (ht : t.isReference = true) : narrow t w = w := by cases t <;> first | rfl | cases ht
theorem own_retA (X : Stand p l e R s m args below meth c T locs cells slots) (hx : p.tables.exec = Jvm.exec) (hlk : meth.locks = false) {pc : Nat} {Ls : Array Slot} {w : Value} {t : FieldType} {rest : List Value} (hret : meth.sig.returnType = some t) (ht : t.isReference = true) (hw : w.isRef = true)
    (hd : decode c.code pc = .ok (.areturn, 1)) (hQ : Q (some w) T.heap locs) (hC : cells ≤ C) (hS : slots ≤ S) : own_Go p e below (own_End s Q C S) T (mkF m pc Ls (w :: rest)) :=
  own_leave X hlk (fun h => by rw [hret] at h; cases h) (fun fs hr => retOut X hx hret (own_narrow_ref ht) (Or.inr (Or.inr (Or.inr (Or.inr ⟨rfl, ht, hw⟩)))) hd hr) hQ hC hS
theorem own_ret0 (X : Stand p l e R s m args below meth c T locs cells slots) (hx : p.tables.exec = Jvm.exec) (hlk : meth.locks = false) {pc : Nat} {Ls : Array Slot} (hret : meth.sig.returnType = none)
    (hd : decode c.code pc = .ok (.return_, 1)) (hQ : Q none T.heap locs) (hC : cells ≤ C) (hS : slots ≤ S) : own_Go p e below (own_End s Q C S) T (mkF m pc Ls []) :=
  own_leave X hlk (fun _ => rfl) (fun fs hr => X.returnOut hx hret hd hr) hQ hC hS
theorem own_callS (X : Stand p l e R s m args below meth c T locs cells slots) (hx : p.tables.exec = Jvm.exec) {own : String} {index : Nat} {y : MethodName} {bytes : ByteArray} {maxL : Nat} {ret : Option FieldType}
    (hown : s.vm.findClass own = some m.cls) (hlink : (Cond.methodLink own index y).before args s = true) (hstat : (Cond.static y).before args s = true) (hinit : (Cond.initialized y.cls).before args s = true)
    (hcode : (Cond.code y bytes maxL ret).before args s = true) (hy : y.cls ≠ "java/lang/invoke/MethodHandle" ∧ y.cls ≠ "java/lang/invoke/VarHandle")
    {W rc rs : Nat} {as' : Array Value} {h : Heap} {Qc : Option Value → Heap → List Loc → Prop}
    (hK : Back l R p e below s args y 3 W (fun A a => a = as' ∧ A.U.heap = h ∧ A.cells + rc ≤ R.cells ∧ A.slots + rs ≤ R.slots) (fun A _ v B => ∃ L, Qc v B.U.heap L ∧ B.locs = A.locs ++ L ∧ B.cells = A.cells + rc ∧ B.slots = A.slots + rs))
    (hg : g.method = m) (hsize : g.locals.size = c.maxLocals) {argsL rest : List Value} (hlen : ∀ sig, parseMethodDescriptor y.desc = some sig → argsL.length = sig.parameters.length)
    (hstack : g.stack = argsL.reverse ++ rest) (hW : 2 * g.monitorRoom + (rest.map fun v => v.category).sum ≤ W) (hdg : decode c.code g.pc = .ok (.invokestatic index, 3))
    (ha : argsL.toArray = as') (eT : T.heap = h) (hc : cells + rc ≤ R.cells) (hs : slots + rs ≤ R.slots)
    (k : ∀ v T' L, Stand p l e R s m args below meth c T' (locs ++ L) (cells + rc) (slots + rs) → Qc v T'.heap L → own_Go p e below P T' { g with pc := g.pc + 3, stack := v.toList ++ rest }) : own_Go p e below P T g := by
  obtain ⟨v, vm₁, ⟨T', L', k', n'⟩, -, X', ⟨L, hQ, l1, y1, z1⟩, st⟩ := Jvm.LawKit.callS X hx hown hlink hstat hinit hcode hy hK hg hsize hlen hstack hW hdg (fun _ _ => ⟨ha, eT, hc, hs⟩)
  dsimp only [Pt.U, Pt.locs, Pt.cells, Pt.slots] at X' l1 y1 z1 st hQ
  subst l1 y1 z1
  exact own_st st (k v T' L X' hQ)
theorem own_callN (X : Stand p l e R s m args below meth c T locs cells slots) (hx : p.tables.exec = Jvm.exec) {own : String} {index : Nat} {y : MethodName} {bytes : ByteArray} {maxL : Nat} (hy1 : y.name = "<init>")
    (hown : s.vm.findClass own = some m.cls) (hlink : (Cond.methodLink own index y).before args s = true) (hinst : (Cond.instanceMethod y).before args s = true)
    (hcode : (Cond.code y bytes maxL none).before args s = true) (hy : y.cls ≠ "java/lang/invoke/MethodHandle" ∧ y.cls ≠ "java/lang/invoke/VarHandle")
    {W rc rs : Nat} {as' : Array Value} {h : Heap} {Qc : Option Value → Heap → List Loc → Prop}
    (hK : Back l R p e below s args y 3 W (fun A a => a = as' ∧ A.U.heap = h ∧ A.cells + rc ≤ R.cells ∧ A.slots + rs ≤ R.slots) (fun A _ v B => ∃ L, Qc v B.U.heap L ∧ B.locs = A.locs ++ L ∧ B.cells = A.cells + rc ∧ B.slots = A.slots + rs))
    {a : Addr} (hg : g.method = m) (hsize : g.locals.size = c.maxLocals) {argsL rest : List Value} (hlen : ∀ sig, parseMethodDescriptor y.desc = some sig → argsL.length = sig.parameters.length)
    (hstack : g.stack = argsL.reverse ++ .ref a :: rest) (hW : 2 * g.monitorRoom + (rest.map fun v => v.category).sum ≤ W) (hdg : decode c.code g.pc = .ok (.invokespecial index, 3))
    (ha : (Value.ref a :: argsL).toArray = as') (eT : T.heap = h) (hc : cells + rc ≤ R.cells) (hs : slots + rs ≤ R.slots)
    (k : ∀ v T' L, Stand p l e R s m args below meth c T' (locs ++ L) (cells + rc) (slots + rs) → Qc v T'.heap L → own_Go p e below P T' { g with pc := g.pc + 3, stack := v.toList ++ rest }) : own_Go p e below P T g := by
  obtain ⟨v, vm₁, ⟨T', L', k', n'⟩, -, X', ⟨L, hQ, l1, y1, z1⟩, st⟩ := X.specialBack hx hy1 hown hlink hinst hcode hy hK hg hsize (Steps.refl _) hlen hstack hW hdg (fun _ _ => ⟨ha, eT, hc, hs⟩)
  dsimp only [Pt.U, Pt.locs, Pt.cells, Pt.slots] at X' l1 y1 z1 st hQ
  subst l1 y1 z1
  exact own_st (fun t k => st.trans k) (k v T' L X' hQ)
theorem own_callV (X : Stand p l e R s m args below meth c T locs cells slots) (hx : p.tables.exec = Jvm.exec) {own Cn : String} {index : Nat} {y z : MethodName}
    (hown : s.vm.findClass own = some m.cls) (hlink : (Cond.methodLink own index y).before args s = true) (hdecl : (Cond.declares y).before args s = true) (hnf : NotFace s y)
    (hsel : (Cond.selects Cn y z).before args s = true) (hinst : (Cond.instanceMethod z).before args s = true)
    (hy : y.cls ≠ "java/lang/invoke/MethodHandle" ∧ y.cls ≠ "java/lang/invoke/VarHandle")
    {W rc rs : Nat} {as' : Array Value} {h : Heap} {Qc : Option Value → Heap → List Loc → Prop}
    (hK : Back l R p e below s args z 3 W (fun A a => a = as' ∧ A.U.heap = h ∧ A.cells + rc ≤ R.cells ∧ A.slots + rs ≤ R.slots) (fun A _ v B => ∃ L, Qc v B.U.heap L ∧ B.locs = A.locs ++ L ∧ B.cells = A.cells + rc ∧ B.slots = A.slots + rs))
    {a : Addr} {cB : ClassId} (hcB : s.vm.findClass Cn = some cB) (hrecv : IsOf cB T a)
    (hg : g.method = m) (hsize : g.locals.size = c.maxLocals) {argsL rest : List Value} (hlen : ∀ sig, parseMethodDescriptor y.desc = some sig → argsL.length = sig.parameters.length)
    (hstack : g.stack = argsL.reverse ++ .ref a :: rest) (hW : 2 * g.monitorRoom + (rest.map fun v => v.category).sum ≤ W) (hdg : decode c.code g.pc = .ok (.invokevirtual index, 3))
    (ha : (Value.ref a :: argsL).toArray = as') (eT : T.heap = h) (hc : cells + rc ≤ R.cells) (hs : slots + rs ≤ R.slots)
    (k : ∀ v T' L, Stand p l e R s m args below meth c T' (locs ++ L) (cells + rc) (slots + rs) → Qc v T'.heap L → own_Go p e below P T' { g with pc := g.pc + 3, stack := v.toList ++ rest }) : own_Go p e below P T g := by
  obtain ⟨v, vm₁, ⟨T', L', k', n'⟩, -, X', ⟨L, hQ, l1, y1, z1⟩, st⟩ := X.virtualBack hx hown hlink hdecl hnf hsel hinst hy hK hcB hrecv hg hsize (Steps.refl _) hlen hstack hW hdg (fun _ _ => ⟨ha, eT, hc, hs⟩)
  dsimp only [Pt.U, Pt.locs, Pt.cells, Pt.slots] at X' l1 y1 z1 st hQ
  subst l1 y1 z1
  exact own_st (fun t k => st.trans k) (k v T' L X' hQ)
theorem own_callI (X : Stand p l e R s m args below meth c T locs cells slots) (hx : p.tables.exec = Jvm.exec) {own Cn : String} {index count : Nat} {xi y : MethodName}
    (hown : s.vm.findClass own = some m.cls) (hlink : (Cond.methodLink own index xi).before args s = true) (hdecl : (Cond.declares xi).before args s = true)
    (hface : (Cond.interfaceMethod xi.cls xi.cls xi.name xi.desc).before args s = true) (hsel : (Cond.selects Cn xi y).before args s = true) (hinst : (Cond.instanceMethod y).before args s = true)
    (hpub : (Cond.publicMethod y).before args s = true) (hunh : (Cond.unhidden Cn xi.name xi.desc).before args s = true) (hcast : (Cond.castable Cn xi.cls).before args s = true)
    (hy : xi.cls ≠ "java/lang/invoke/MethodHandle" ∧ xi.cls ≠ "java/lang/invoke/VarHandle")
    {W rc rs : Nat} {as' : Array Value} {h : Heap} {Qc : Option Value → Heap → List Loc → Prop}
    (hK : Back l R p e below s args y 5 W (fun A a => a = as' ∧ A.U.heap = h ∧ A.cells + rc ≤ R.cells ∧ A.slots + rs ≤ R.slots) (fun A _ v B => ∃ L, Qc v B.U.heap L ∧ B.locs = A.locs ++ L ∧ B.cells = A.cells + rc ∧ B.slots = A.slots + rs))
    {a : Addr} {cB : ClassId} {kB : Class} (hcB : s.vm.findClass Cn = some cB) (hkB : s.vm.classes[cB]? = some kB) (hrecv : IsOf cB T a)
    (hg : g.method = m) (hsize : g.locals.size = c.maxLocals) {argsL rest : List Value} (hlen : ∀ sig, parseMethodDescriptor xi.desc = some sig → argsL.length = sig.parameters.length)
    (hstack : g.stack = argsL.reverse ++ .ref a :: rest) (hW : 2 * g.monitorRoom + (rest.map fun v => v.category).sum ≤ W) (hdg : decode c.code g.pc = .ok (.invokeinterface index count, 5))
    (ha : (Value.ref a :: argsL).toArray = as') (eT : T.heap = h) (hc : cells + rc ≤ R.cells) (hs : slots + rs ≤ R.slots)
    (k : ∀ v T' L, Stand p l e R s m args below meth c T' (locs ++ L) (cells + rc) (slots + rs) → Qc v T'.heap L → own_Go p e below P T' { g with pc := g.pc + 5, stack := v.toList ++ rest }) : own_Go p e below P T g := by
  obtain ⟨v, vm₁, ⟨T', L', k', n'⟩, -, X', ⟨L, hQ, l1, y1, z1⟩, st⟩ := X.interfaceBack hx hown hlink hdecl hface hsel hinst hpub hunh hcast hy hK hcB hkB hrecv hg hsize (Steps.refl _) hlen hstack hW hdg (fun _ _ => ⟨ha, eT, hc, hs⟩)
  dsimp only [Pt.U, Pt.locs, Pt.cells, Pt.slots] at X' l1 y1 z1 st hQ
  subst l1 y1 z1
  exact own_st (fun t k => st.trans k) (k v T' L X' hQ)
theorem own_callP (X : Stand p l e R s m args below meth c T locs cells slots) (hx : p.tables.exec = Jvm.exec) {own : String} {index : Nat} {y : MethodName} {bytes : ByteArray} {maxL : Nat} {ret : Option FieldType}
    (hown : s.vm.findClass own = some m.cls) (hlink : (Cond.methodLink own index y).before args s = true) (hinst : (Cond.instanceMethod y).before args s = true) (hsel : (Cond.selects y.cls y y).before args s = true)
    (hpriv : s.PrivateAt y) (hcode : (Cond.code y bytes maxL ret).before args s = true) (hy : y.cls ≠ "java/lang/invoke/MethodHandle" ∧ y.cls ≠ "java/lang/invoke/VarHandle")
    {W rc rs : Nat} {as' : Array Value} {h : Heap} {Qc : Option Value → Heap → List Loc → Prop}
    (hK : Back l R p e below s args y 3 W (fun A a => a = as' ∧ A.U.heap = h ∧ A.cells + rc ≤ R.cells ∧ A.slots + rs ≤ R.slots) (fun A _ v B => ∃ L, Qc v B.U.heap L ∧ B.locs = A.locs ++ L ∧ B.cells = A.cells + rc ∧ B.slots = A.slots + rs))
    {a : Addr} {cell : Cell} (hcell : T.heap[a]? = some cell) (hobj : ∀ q, cell.vm ≠ .statics q)
    (hg : g.method = m) (hsize : g.locals.size = c.maxLocals) {argsL rest : List Value} (hlen : ∀ sig, parseMethodDescriptor y.desc = some sig → argsL.length = sig.parameters.length)
    (hstack : g.stack = argsL.reverse ++ .ref a :: rest) (hW : 2 * g.monitorRoom + (rest.map fun v => v.category).sum ≤ W) (hdg : decode c.code g.pc = .ok (.invokevirtual index, 3))
    (ha : (Value.ref a :: argsL).toArray = as') (eT : T.heap = h) (hc : cells + rc ≤ R.cells) (hs : slots + rs ≤ R.slots)
    (k : ∀ v T' L, Stand p l e R s m args below meth c T' (locs ++ L) (cells + rc) (slots + rs) → Qc v T'.heap L → own_Go p e below P T' { g with pc := g.pc + 3, stack := v.toList ++ rest }) : own_Go p e below P T g := by
  obtain ⟨v, vm₁, ⟨T', L', k', n'⟩, -, X', ⟨L, hQ, l1, y1, z1⟩, st⟩ := X.privateBack hx hown hlink hinst hsel hpriv hcode hy hK hg hsize (Steps.refl _) hcell hobj hlen hstack hW hdg (fun _ _ => ⟨ha, eT, hc, hs⟩)
  dsimp only [Pt.U, Pt.locs, Pt.cells, Pt.slots] at X' l1 y1 z1 st hQ
  subst l1 y1 z1
  exact own_st (fun t k => st.trans k) (k v T' L X' hQ)
theorem own_callU (X : Stand p l e R s m args below meth c T locs cells slots) (hx : p.tables.exec = Jvm.exec) {own Cn owner : String} {index : Nat} {y z : MethodName}
    (hown : s.vm.findClass own = some m.cls) (hlink : (Cond.methodLink own index y).before args s = true) (hsame : (Cond.sameMethod y.cls owner y.name y.desc).before args s = true)
    (hdecl : (Cond.declares ⟨owner, y.name, y.desc⟩).before args s = true) (howner : owner ≠ "java/lang/invoke/MethodHandle" ∧ owner ≠ "java/lang/invoke/VarHandle")
    (hsel : (Cond.selects Cn y z).before args s = true) (hinst : (Cond.instanceMethod z).before args s = true)
    {W rc rs : Nat} {as' : Array Value} {h : Heap} {Qc : Option Value → Heap → List Loc → Prop}
    (hK : Back l R p e below s args z 3 W (fun A a => a = as' ∧ A.U.heap = h ∧ A.cells + rc ≤ R.cells ∧ A.slots + rs ≤ R.slots) (fun A _ v B => ∃ L, Qc v B.U.heap L ∧ B.locs = A.locs ++ L ∧ B.cells = A.cells + rc ∧ B.slots = A.slots + rs))
    {a : Addr} {cB : ClassId} (hcB : s.vm.findClass Cn = some cB) (hrecv : IsOf cB T a)
    (hg : g.method = m) (hsize : g.locals.size = c.maxLocals) {argsL rest : List Value} (hlen : ∀ sig, parseMethodDescriptor y.desc = some sig → argsL.length = sig.parameters.length)
    (hstack : g.stack = argsL.reverse ++ .ref a :: rest) (hW : 2 * g.monitorRoom + (rest.map fun v => v.category).sum ≤ W) (hdg : decode c.code g.pc = .ok (.invokevirtual index, 3))
    (ha : (Value.ref a :: argsL).toArray = as') (eT : T.heap = h) (hc : cells + rc ≤ R.cells) (hs : slots + rs ≤ R.slots)
    (k : ∀ v T' L, Stand p l e R s m args below meth c T' (locs ++ L) (cells + rc) (slots + rs) → Qc v T'.heap L → own_Go p e below P T' { g with pc := g.pc + 3, stack := v.toList ++ rest }) : own_Go p e below P T g := by
  obtain ⟨v, vm₁, ⟨T', L', k', n'⟩, -, X', ⟨L, hQ, l1, y1, z1⟩, st⟩ := X.virtualBackUp hx hown hlink hsame hdecl howner hsel hinst hK hcB hrecv hg hsize (Steps.refl _) hlen hstack hW hdg (fun _ _ => ⟨ha, eT, hc, hs⟩)
  dsimp only [Pt.U, Pt.locs, Pt.cells, Pt.slots] at X' l1 y1 z1 st hQ
  subst l1 y1 z1
  exact own_st (fun t k => st.trans k) (k v T' L X' hQ)
end Own
section OwnWords
variable {args : Array Value} {s : State} {t u : Term} {x y : Addr} {C n d : String} {z : Int32}
theorem own_feqR (h : (Cond.eq (Term.field t C n d) u).value args s none s [] = some true) (ht : t.eval args s none [] s = some (.ref x)) (hu : u.eval args s none [] s = some (.ref y)) : s.fieldOf? x C n d = some (.ref y) := by
  obtain ⟨x', y', h1, h2, k1, k2⟩ := cmp_v (Or.inl h)
  cases hu.symm.trans h2
  have hr : x'.isRef = true := k2.2
  have := gotT (eq_R h1 h2 hr rfl) h
  rw [← fld_at ht (idx := []) (first := s) (o := none) (args := args), h1, this]
theorem own_feqI (h : (Cond.eq (Term.field t C n d) (.int z)).value args s none s [] = some true) (ht : t.eval args s none [] s = some (.ref x)) : s.fieldOf? x C n d = some (.int z) := by
  obtain ⟨x', y', h1, h2, k1, k2⟩ := cmp_v (Or.inl h)
  cases (Term.int_eval z).symm.trans h2
  obtain ⟨z', rfl⟩ := k2
  have : z' = z := by simpa [Cond.value, h1, Term.int_eval] using h
  rw [← fld_at ht (idx := []) (first := s) (o := none) (args := args), h1, this]
end OwnWords
section OwnArr
variable {args : Array Value} {s : State} {t : Term} {a : Addr} {cl : Cell} {ty : FieldType} {z j v : Int32}
theorem own_len (h : (Cond.eq (Term.length t) (.int z)).value args s none s [] = some true) (ht : t.eval args s none [] s = some (.ref a)) (A : Arr s s.heap a cl ty) : cl.slots.size < 2 ^ 31 ∧ cl.slots.size.toInt32 = z := by
  obtain ⟨x', y', h1, h2, k1, k2⟩ := cmp_v (Or.inl h)
  cases (Term.int_eval z).symm.trans h2
  obtain ⟨z', rfl⟩ := k2
  have e : z' = z := by simpa [Cond.value, h1, Term.int_eval] using h
  have ha := A.fin (Vm.Alike.refl _)
  by_cases q : cl.slots.size < 2 ^ 31
  · rw [len_f ht ha q] at h1
    cases h1
    exact ⟨q, e⟩
  · simp [Term.eval, ht, ha, q] at h1
theorem own_elem (h : (Cond.eq (Term.elem t (.int j)) (.int v)).value args s none s [] = some true) (ht : t.eval args s none [] s = some (.ref a)) (A : Arr s s.heap a cl ty) (hj : ¬ j < 0) : cl.slots[j.toNatClampNeg]? = some (.int v) := by
  obtain ⟨x', y', h1, h2, k1, k2⟩ := cmp_v (Or.inl h)
  cases (Term.int_eval v).symm.trans h2
  obtain ⟨z', rfl⟩ := k2
  have e : z' = v := by simpa [Cond.value, h1, Term.int_eval] using h
  rw [elem_f ht (Term.int_eval j) (A.fin (Vm.Alike.refl _)) hj] at h1
  rw [h1, e]
theorem own_elemR {u : Term} {y : Addr} (h : (Cond.eq (Term.elem t (.int j)) u).value args s none s [] = some true) (ht : t.eval args s none [] s = some (.ref a)) (hu : u.eval args s none [] s = some (.ref y)) (A : Arr s s.heap a cl ty) (hj : ¬ j < 0) : cl.slots[j.toNatClampNeg]? = some (.ref y) := by
  obtain ⟨x', y', h1, h2, k1, k2⟩ := cmp_v (Or.inl h)
  cases hu.symm.trans h2
  have hr : x'.isRef = true := k2.2
  have e := gotT (eq_R h1 h2 hr rfl) h
  rw [elem_f ht (Term.int_eval j) (A.fin (Vm.Alike.refl _)) hj] at h1
  rw [h1, e]
end OwnArr

theorem own_words {Z : State} {a0 : Array Value} (hw : ∀ d ∈ tables_1, d.before a0 Z = true) : ∀ d ∈ StrChars.Road.words, d.before a0 Z = true := fun d hd => hw d ((by decide +kernel : ∀ d ∈ StrChars.Road.words, d ∈ tables_1) d hd)
theorem own_lnil : ∀ c ∈ ([] : List Int32), ¬ c < 0 ∧ ¬ (255 : Int32) < c := fun _ h => nomatch h
theorem own_lcons {a : Int32} {cs : List Int32} (h : ¬ a < 0 ∧ ¬ (255 : Int32) < a) (r : ∀ c ∈ cs, ¬ c < 0 ∧ ¬ (255 : Int32) < c) : ∀ c ∈ a :: cs, ¬ c < 0 ∧ ¬ (255 : Int32) < c := fun c hc => (List.mem_cons.mp hc).elim (fun e => e ▸ h) (r c)
theorem own_lat (y : Int32) (h : 0 ≤ y.toInt ∧ y.toInt ≤ 255) : nar .char y = y ∧ ¬ y < 0 ∧ ¬ (255 : Int32) < y := by
  have c := c_i2c y
  refine ⟨Int32.toInt_inj.mp ?_, ?_, ?_⟩
  · show y.toUInt32.toUInt16.toUInt32.toInt32.toInt = y.toInt
    omega
  · rw [Int32.lt_iff_toInt_lt]; show ¬ y.toInt < 0; omega
  · rw [Int32.lt_iff_toInt_lt]; show ¬ (255 : Int) < y.toInt; omega
theorem own_and255 (x : Int32) : ¬ nar .char ((x &&& (255 : Int32)).toUInt32.toUInt16.toUInt32.toInt32) < 0 ∧ ¬ (255 : Int32) < nar .char ((x &&& (255 : Int32)).toUInt32.toUInt16.toUInt32.toInt32) := by
  have h := c_and x (255 : Int32) (by decide)
  have e := own_lat (x &&& 255) ⟨h.1, h.2⟩
  have e2 : (x &&& (255 : Int32)).toUInt32.toUInt16.toUInt32.toInt32 = x &&& 255 := e.1
  rw [e2, e.1]; exact e.2
theorem own_up {cs : List Int32} (h : ∀ c ∈ cs, ¬ c < 0 ∧ ¬ (255 : Int32) < c) : ∀ c ∈ cs, ¬ c < 0 ∧ ¬ (65535 : Int32) < c := fun c hc => ⟨(h c hc).1, fun q => (h c hc).2 (by rw [Int32.lt_iff_toInt_lt] at q ⊢; have e1 : (65535 : Int32).toInt = 65535 := rfl; have e2 : (255 : Int32).toInt = 255 := rfl; omega)⟩
def own_L (y : Int32) : Prop := 0 ≤ y.toInt ∧ y.toInt ≤ 255
theorem own_i2cL (x : Int32) : own_L ((x &&& (255 : Int32)).toUInt32.toUInt16.toUInt32.toInt32) := by
  have h := c_and x (255 : Int32) (by decide)
  have e2 : (x &&& (255 : Int32)).toUInt32.toUInt16.toUInt32.toInt32 = x &&& 255 := (own_lat (x &&& 255) ⟨h.1, h.2⟩).1
  rw [e2]
  exact h
theorem own_LN {y : Int32} (h : own_L y) : nar .char y = y := (own_lat y h).1
theorem own_LL {y : Int32} (h : own_L y) : ¬ y < 0 ∧ ¬ (255 : Int32) < y := (own_lat y h).2
theorem own_LLN {y : Int32} (h : own_L y) : ¬ nar .char y < 0 ∧ ¬ (255 : Int32) < nar .char y := by rw [own_LN h]; exact own_LL h
theorem own_wEq {Z : State} {a0 : Array Value} (hw : ∀ d ∈ tables_1, d.before a0 Z = true) : ∀ d ∈ StrChars.Road.wordsEq, d.before a0 Z = true := fun d hd => hw d ((by decide +kernel : ∀ d ∈ StrChars.Road.wordsEq, d ∈ tables_1) d hd)
def own_QEq (cs ds : List Int32) (h : Heap) (v : Option Value) (h' : Heap) (L : List Loc) : Prop := ((v = some (.int 1) ∧ cs = ds) ∨ (v = some (.int 0) ∧ ¬ cs = ds)) ∧ L = [] ∧ h' = h
theorem own_eqB {l : Launch} {R : Room} {p : Program} {e : Env} {below : List Frame} {s : State} {args : Array Value} {y : MethodName} {len W : Nat} {P : Pt → Array Value → Prop} {cs ds : List Int32} {h : Heap}
    (B : Back l R p e below s args y len W P (fun P _ v B => ∃ L, (((v = some (.int 1) ∧ cs = ds) ∨ (v = some (.int 0) ∧ ¬ cs = ds)) ∧ L = [] ∧ B.U.heap = h) ∧ B.locs = P.locs ++ L ∧ B.cells = P.cells + 0 ∧ B.slots = P.slots + 0)) :
    Back l R p e below s args y len W P (fun P _ v B => ∃ L, own_QEq cs ds h v B.U.heap L ∧ B.locs = P.locs ++ L ∧ B.cells = P.cells + 0 ∧ B.slots = P.slots + 0) := B
/-! Walks that may intern: what is kept beside the Stand over 's.setVm vm0'. -/
def own_Bk (Z : State) (EL : List (String × Nat)) (s : State) (h0 : Heap) (vm0 : Vm) (H : Heap) : Prop := (∃ k0, s.Since vm0 k0 ∧ k0 ≤ H.size) ∧ CHr Z EL s.vm h0 vm0 H
abbrev own_EndS (Z : State) (EL : List (String × Nat)) (s : State) (Q : Option Value → Heap → List Loc → Prop) (C S : Nat) : Outcome → State → Prop := fun o s₂ => ∃ v L, o = .returned v ∧ Q v s₂.heap L ∧ CHr Z EL s.vm s.heap s₂.vm s₂.heap ∧ ReturnedEndW s o s₂ L C S
section OwnS
variable {p : Program} {l : Launch} {e : Env} {R : Room} {s : State} {m : MethodId} {args : Array Value} {below : List Frame} {meth : Method} {c : Code} {T T' : State} {locs : List Loc} {cells slots : Nat} {P : Outcome → State → Prop} {g g' : JFrame} {Q : Option Value → Heap → List Loc → Prop} {C S : Nat} {Z : State} {EL : List (String × Nat)} {a0 : Array Value} {h0 H H' h : Heap} {vm0 vm1 : Vm} {a : Addr} {sl : Nat} {v : Value} {ws : List Addr}
theorem own_Bk.start (H : CHv Z EL s.vm h0) : own_Bk Z EL s h0 s.vm h0 := ⟨⟨0, (State.WarmedH.refl s).since 0, Nat.zero_le _⟩, CHr.refl H⟩
theorem own_Bk.ch (B : own_Bk Z EL s h0 vm0 H) : CHv Z EL vm0 H := B.2.1
theorem own_Bk.ext (E : Ext H H') (B : own_Bk Z EL s h0 vm0 H) : own_Bk Z EL s h0 vm0 H' := by
  obtain ⟨⟨k, h1, h2⟩, r⟩ := B
  exact ⟨⟨k, h1, Nat.le_trans h2 E.1⟩, r.trans (CHr.ext E r.1)⟩
theorem own_Bk.wr (W : Wr H H' a sl v) (q : Safe Z EL vm0 H a) (B : own_Bk Z EL s h0 vm0 H) : own_Bk Z EL s h0 vm0 H' := by
  obtain ⟨⟨k, h1, h2⟩, r⟩ := B
  exact ⟨⟨k, h1, by rw [W.size]; exact h2⟩, r.trans (CHr.wr W q r.1)⟩
theorem own_Bk.keep (K : Keep H H' ws) (q : ∀ x ∈ ws, Safe Z EL vm0 H x) (B : own_Bk Z EL s h0 vm0 H) : own_Bk Z EL s h0 vm0 H' := by
  obtain ⟨⟨k, h1, h2⟩, r⟩ := B
  exact ⟨⟨k, h1, Nat.le_trans h2 K.1⟩, r.trans (CHr.keep K q r.1)⟩
theorem own_leaveS (X : Stand p l e R (s.setVm vm0) m args below meth c T locs cells slots) (hZ : Z.Warmed39 vm0) (hEL : EW Z a0 EL) (eT : T.heap = H) (h0e : s.heap = h0) (B : own_Bk Z EL s h0 vm0 H) (hlk : meth.locks = false) {v : Option Value} (hv : meth.sig.returnType = none → v = none)
    (k : ∀ fs, (∀ (f : JFrame) (acts : List Action), f.method = m → f.locked = none → f.entered = [] → (doReturn e (T.setTop f) acts v).1 = T.setFrames fs) → Steps p.tables e below (T.setTop g) (T.setFrames fs))
    (hQ : Q v T.heap locs) (hC : cells ≤ C) (hS : slots ≤ S) : own_Go p e below (own_EndS Z EL s Q C S) T g := by
  obtain ⟨⟨k0, b1, b2⟩, r⟩ := B
  obtain ⟨fs, hr, hrun, hended, hW, hsame⟩ := X.leave hv hlk
  have q := b1.ended hW (show k0 ≤ T.heap.size by rw [eT]; exact b2) hsame
  refine ⟨_, _, k fs hr, hrun, hended, _, _, rfl, hQ, ?_, ⟨_, rfl⟩, q.1, q.2.1, q.2.2.mono hC hS⟩
  have z := r.trans (CHv.at X hZ hEL r.1)
  subst eT h0e
  exact z
theorem own_retNS (X : Stand p l e R (s.setVm vm0) m args below meth c T locs cells slots) (hx : p.tables.exec = Jvm.exec) (hlk : meth.locks = false) (hZ : Z.Warmed39 vm0) (hEL : EW Z a0 EL) (eT : T.heap = H) (h0e : s.heap = h0) (B : own_Bk Z EL s h0 vm0 H) {pc : Nat} {Ls : Array Slot} {z : Int32} {t : FieldType} {rest : List Value} (hret : meth.sig.returnType = some t) (ht : t = .boolean ∨ t = .byte ∨ t = .char ∨ t = .short)
    (hd : decode c.code pc = .ok (.ireturn, 1)) (hQ : Q (some (.int (nar t z))) T.heap locs) (hC : cells ≤ C) (hS : slots ≤ S) : own_Go p e below (own_EndS Z EL s Q C S) T (mkF m pc Ls (.int z :: rest)) :=
  own_leaveS X hZ hEL eT h0e B hlk (fun h => by rw [hret] at h; cases h) (fun fs hr => retN X hx hret ht hd hr) hQ hC hS
theorem own_retIS (X : Stand p l e R (s.setVm vm0) m args below meth c T locs cells slots) (hx : p.tables.exec = Jvm.exec) (hlk : meth.locks = false) (hZ : Z.Warmed39 vm0) (hEL : EW Z a0 EL) (eT : T.heap = H) (h0e : s.heap = h0) (B : own_Bk Z EL s h0 vm0 H) {pc : Nat} {Ls : Array Slot} {z : Int32} {rest : List Value} (hret : meth.sig.returnType = some .int)
    (hd : decode c.code pc = .ok (.ireturn, 1)) (hQ : Q (some (.int z)) T.heap locs) (hC : cells ≤ C) (hS : slots ≤ S) : own_Go p e below (own_EndS Z EL s Q C S) T (mkF m pc Ls (.int z :: rest)) :=
  own_leaveS X hZ hEL eT h0e B hlk (fun h => by rw [hret] at h; cases h) (fun fs hr => retOut X hx hret rfl (Or.inl ⟨rfl, Or.inl rfl, z, rfl⟩) hd hr) hQ hC hS
theorem own_retAS (X : Stand p l e R (s.setVm vm0) m args below meth c T locs cells slots) (hx : p.tables.exec = Jvm.exec) (hlk : meth.locks = false) (hZ : Z.Warmed39 vm0) (hEL : EW Z a0 EL) (eT : T.heap = H) (h0e : s.heap = h0) (B : own_Bk Z EL s h0 vm0 H) {pc : Nat} {Ls : Array Slot} {w : Value} {t : FieldType} {rest : List Value} (hret : meth.sig.returnType = some t) (ht : t.isReference = true) (hw : w.isRef = true)
    (hd : decode c.code pc = .ok (.areturn, 1)) (hQ : Q (some w) T.heap locs) (hC : cells ≤ C) (hS : slots ≤ S) : own_Go p e below (own_EndS Z EL s Q C S) T (mkF m pc Ls (w :: rest)) :=
  own_leaveS X hZ hEL eT h0e B hlk (fun h => by rw [hret] at h; cases h) (fun fs hr => retOut X hx hret (own_narrow_ref ht) (Or.inr (Or.inr (Or.inr (Or.inr ⟨rfl, ht, hw⟩)))) hd hr) hQ hC hS
theorem own_ret0S (X : Stand p l e R (s.setVm vm0) m args below meth c T locs cells slots) (hx : p.tables.exec = Jvm.exec) (hlk : meth.locks = false) (hZ : Z.Warmed39 vm0) (hEL : EW Z a0 EL) (eT : T.heap = H) (h0e : s.heap = h0) (B : own_Bk Z EL s h0 vm0 H) {pc : Nat} {Ls : Array Slot} (hret : meth.sig.returnType = none)
    (hd : decode c.code pc = .ok (.return_, 1)) (hQ : Q none T.heap locs) (hC : cells ≤ C) (hS : slots ≤ S) : own_Go p e below (own_EndS Z EL s Q C S) T (mkF m pc Ls []) :=
  own_leaveS X hZ hEL eT h0e B hlk (fun _ => rfl) (fun fs hr => X.returnOut hx hret hd hr) hQ hC hS
theorem own_ldc (X : Stand p l e R (s.setVm vm0) m args below meth c T locs cells slots) (hx : p.tables.exec = Jvm.exec) (hZ : Z.Warmed39 vm0) {own text : String} {index : Nat} (hown : vm0.findClass own = some m.cls) (w : (Cond.stringLink own index text).before a0 Z = true) (wS : ∀ a ∈ Bundle.stringAtoms, a.before a0 Z = true)
    (eT : T.heap = H) (hEL : EW Z a0 EL) (hmem : (own, index) ∈ EL) (B : own_Bk Z EL s h0 vm0 H)
    {vs : List Value} {z : Int32} (ht : (∀ c ∈ text.toList, c.toNat < 256) ∧ text.toList.map (fun c => Value.int (Jvm.Lit.byteI c.toNat.toUInt16)) = vs) (hz : ¬ z < 0) (hl : z.toNatClampNeg = vs.length)
    (hg : g.method = m) (hd : decode c.code g.pc = .ok (.ldc index, 2)) {n : Nat} (hn : 4 * text.toList.length ≤ n) (hbig : n ≤ 536870912) (hc : cells + 2 ≤ R.cells) (hl' : slots + (n + 4) ≤ R.slots) :
    ∃ (a : Addr) (T' : State) (h' : Heap) (b : Addr) (k : ClassId), Stand p l e R (s.setVm T'.vm) m args below meth c T' locs (cells + 2) (slots + (n + 4)) ∧ T'.heap = h' ∧ Ext H h' ∧ Z.Warmed39 T'.vm ∧ T'.vm.findClass own = some m.cls ∧
      Exa Z h' a "java/lang/String" ∧ Fld Z h' a "java/lang/String" "coder" "B" (.int 0) ∧ Fld Z h' a "java/lang/String" "value" "[B" (.ref b) ∧ Arv Z h' b k .byte z vs (.int 0) ∧ CHr Z EL vm0 H T'.vm h' ∧ own_Bk Z EL s h0 T'.vm h' ∧ (∀ x, Safe Z EL T'.vm h' x → x ≠ a ∧ x ≠ b) ∧
      ∀ target, Steps p.tables e below (T'.setTop { g with pc := g.pc + 2, stack := .ref a :: g.stack }) target → Steps p.tables e below (T.setTop g) target := by
  obtain ⟨⟨k0, b1, b2⟩, r⟩ := B
  obtain ⟨a, T', h', k1, b, k, r1, r2, r3, r4, r5, r6, r7, r8, r9, r10, r11, -, -, r14, -, r16, r17⟩ := ldcCH X hx hZ hown w wS eT b1 b2 hEL hmem r.1 ht hz hl hg hd hn hbig hc hl'
  exact ⟨a, T', h', b, k, r1, r2, r3, r6, r7, r8, r9, r10, r11, r14, ⟨⟨k1, r4, r5⟩, r.trans r14⟩, r16, r17⟩
theorem own_callSS (X : Stand p l e R (s.setVm vm0) m args below meth c T locs cells slots) (hx : p.tables.exec = Jvm.exec) {own : String} {index : Nat} {y : MethodName} {bytes : ByteArray} {maxL : Nat} {ret : Option FieldType}
    (hown : (s.setVm vm0).vm.findClass own = some m.cls) (hlink : (Cond.methodLink own index y).before args (s.setVm vm0) = true) (hstat : (Cond.static y).before args (s.setVm vm0) = true) (hinit : (Cond.initialized y.cls).before args (s.setVm vm0) = true)
    (hcode : (Cond.code y bytes maxL ret).before args (s.setVm vm0) = true) (hy : y.cls ≠ "java/lang/invoke/MethodHandle" ∧ y.cls ≠ "java/lang/invoke/VarHandle")
    {W rc rs : Nat} {as' : Array Value} {Qc : Option Value → Heap → List Loc → Prop}
    (hK : BackS l R p e below (s.setVm vm0) args y 3 W (fun A a => a = as' ∧ A.U.heap = h ∧ A.cells + rc ≤ R.cells ∧ A.slots + rs ≤ R.slots) (fun A _ v B => ∃ L, Qc v B.U.heap L ∧ B.locs = A.locs ++ L ∧ B.cells = A.cells + rc ∧ B.slots = A.slots + rs ∧ CHr Z EL vm0 h B.U.vm B.U.heap))
    (hg : g.method = m) (hsize : g.locals.size = c.maxLocals) {argsL rest : List Value} (hlen : ∀ sig, parseMethodDescriptor y.desc = some sig → argsL.length = sig.parameters.length)
    (hstack : g.stack = argsL.reverse ++ rest) (hW : 2 * g.monitorRoom + (rest.map fun v => v.category).sum ≤ W) (hdg : decode c.code g.pc = .ok (.invokestatic index, 3))
    (ha : argsL.toArray = as') (eT : T.heap = h) (hc : cells + rc ≤ R.cells) (hs : slots + rs ≤ R.slots) (hZ : Z.Warmed39 vm0) (B : own_Bk Z EL s h0 vm0 h)
    (k : ∀ v T' L, Stand p l e R (s.setVm T'.vm) m args below meth c T' (locs ++ L) (cells + rc) (slots + rs) → Qc v T'.heap L → CHr Z EL vm0 h T'.vm T'.heap → own_Bk Z EL s h0 T'.vm T'.heap → Z.Warmed39 T'.vm → T'.vm.findClass own = some m.cls → own_Go p e below P T' { g with pc := g.pc + 3, stack := v.toList ++ rest }) : own_Go p e below P T g := by
  obtain ⟨v, vm₁, ⟨T', L', k', n'⟩, -, X', hS', hgr, ⟨L, hQ, l1, y1, z1, hC⟩, st⟩ := callSS X hx hown hlink hstat hinit hcode hy hK hg hsize hlen hstack hW hdg (fun _ _ => ⟨ha, eT, hc, hs⟩)
  dsimp only [Pt.U, Pt.locs, Pt.cells, Pt.slots] at X' l1 y1 z1 st hQ hS' hgr hC
  subst l1 y1 z1
  obtain ⟨⟨k0, b1, b2⟩, r⟩ := B
  have hS2 := foldS b1 (show k0 ≤ T.heap.size by rw [eT]; exact b2) hS' hgr
  exact own_st (fun t k => st.trans k) (k v T' L X' hQ hC ⟨⟨_, hS2, Nat.le_refl _⟩, r.trans hC⟩ (State.Warmed39.trans (t := s.setVm vm0) hZ hS'.1) (by rw [hS'.1.alike.findClass]; exact hown))
theorem own_callNS (X : Stand p l e R (s.setVm vm0) m args below meth c T locs cells slots) (hx : p.tables.exec = Jvm.exec) {own : String} {index : Nat} {y : MethodName} {bytes : ByteArray} {maxL : Nat} (hy1 : y.name = "<init>")
    (hown : (s.setVm vm0).vm.findClass own = some m.cls) (hlink : (Cond.methodLink own index y).before args (s.setVm vm0) = true) (hinst : (Cond.instanceMethod y).before args (s.setVm vm0) = true)
    (hcode : (Cond.code y bytes maxL none).before args (s.setVm vm0) = true) (hy : y.cls ≠ "java/lang/invoke/MethodHandle" ∧ y.cls ≠ "java/lang/invoke/VarHandle")
    {W rc rs : Nat} {as' : Array Value} {Qc : Option Value → Heap → List Loc → Prop}
    (hK : BackS l R p e below (s.setVm vm0) args y 3 W (fun A a => a = as' ∧ A.U.heap = h ∧ A.cells + rc ≤ R.cells ∧ A.slots + rs ≤ R.slots) (fun A _ v B => ∃ L, Qc v B.U.heap L ∧ B.locs = A.locs ++ L ∧ B.cells = A.cells + rc ∧ B.slots = A.slots + rs ∧ CHr Z EL vm0 h B.U.vm B.U.heap))
    {a : Addr} (hg : g.method = m) (hsize : g.locals.size = c.maxLocals) {argsL rest : List Value} (hlen : ∀ sig, parseMethodDescriptor y.desc = some sig → argsL.length = sig.parameters.length)
    (hstack : g.stack = argsL.reverse ++ .ref a :: rest) (hW : 2 * g.monitorRoom + (rest.map fun v => v.category).sum ≤ W) (hdg : decode c.code g.pc = .ok (.invokespecial index, 3))
    (ha : (Value.ref a :: argsL).toArray = as') (eT : T.heap = h) (hc : cells + rc ≤ R.cells) (hs : slots + rs ≤ R.slots) (hZ : Z.Warmed39 vm0) (B : own_Bk Z EL s h0 vm0 h)
    (k : ∀ v T' L, Stand p l e R (s.setVm T'.vm) m args below meth c T' (locs ++ L) (cells + rc) (slots + rs) → Qc v T'.heap L → CHr Z EL vm0 h T'.vm T'.heap → own_Bk Z EL s h0 T'.vm T'.heap → Z.Warmed39 T'.vm → T'.vm.findClass own = some m.cls → own_Go p e below P T' { g with pc := g.pc + 3, stack := v.toList ++ rest }) : own_Go p e below P T g := by
  obtain ⟨v, vm₁, ⟨T', L', k', n'⟩, -, X', hS', hgr, ⟨L, hQ, l1, y1, z1, hC⟩, st⟩ := X.specialBackS hx hy1 hown hlink hinst hcode hy hK hg hsize (Steps.refl _) hlen hstack hW hdg (fun _ _ => ⟨ha, eT, hc, hs⟩)
  dsimp only [Pt.U, Pt.locs, Pt.cells, Pt.slots] at X' l1 y1 z1 st hQ hS' hgr hC
  subst l1 y1 z1
  obtain ⟨⟨k0, b1, b2⟩, r⟩ := B
  have hS2 := foldS b1 (show k0 ≤ T.heap.size by rw [eT]; exact b2) hS' hgr
  exact own_st (fun t k => st.trans k) (k v T' L X' hQ hC ⟨⟨_, hS2, Nat.le_refl _⟩, r.trans hC⟩ (State.Warmed39.trans (t := s.setVm vm0) hZ hS'.1) (by rw [hS'.1.alike.findClass]; exact hown))
theorem own_callVS (X : Stand p l e R (s.setVm vm0) m args below meth c T locs cells slots) (hx : p.tables.exec = Jvm.exec) {own Cn : String} {index : Nat} {y z : MethodName}
    (hown : (s.setVm vm0).vm.findClass own = some m.cls) (hlink : (Cond.methodLink own index y).before args (s.setVm vm0) = true) (hdecl : (Cond.declares y).before args (s.setVm vm0) = true) (hnf : NotFace (s.setVm vm0) y)
    (hsel : (Cond.selects Cn y z).before args (s.setVm vm0) = true) (hinst : (Cond.instanceMethod z).before args (s.setVm vm0) = true)
    (hy : y.cls ≠ "java/lang/invoke/MethodHandle" ∧ y.cls ≠ "java/lang/invoke/VarHandle")
    {W rc rs : Nat} {as' : Array Value} {Qc : Option Value → Heap → List Loc → Prop}
    (hK : BackS l R p e below (s.setVm vm0) args z 3 W (fun A a => a = as' ∧ A.U.heap = h ∧ A.cells + rc ≤ R.cells ∧ A.slots + rs ≤ R.slots) (fun A _ v B => ∃ L, Qc v B.U.heap L ∧ B.locs = A.locs ++ L ∧ B.cells = A.cells + rc ∧ B.slots = A.slots + rs ∧ CHr Z EL vm0 h B.U.vm B.U.heap))
    {a : Addr} {cB : ClassId} (hcB : (s.setVm vm0).vm.findClass Cn = some cB) (hrecv : IsOf cB T a)
    (hg : g.method = m) (hsize : g.locals.size = c.maxLocals) {argsL rest : List Value} (hlen : ∀ sig, parseMethodDescriptor y.desc = some sig → argsL.length = sig.parameters.length)
    (hstack : g.stack = argsL.reverse ++ .ref a :: rest) (hW : 2 * g.monitorRoom + (rest.map fun v => v.category).sum ≤ W) (hdg : decode c.code g.pc = .ok (.invokevirtual index, 3))
    (ha : (Value.ref a :: argsL).toArray = as') (eT : T.heap = h) (hc : cells + rc ≤ R.cells) (hs : slots + rs ≤ R.slots) (hZ : Z.Warmed39 vm0) (B : own_Bk Z EL s h0 vm0 h)
    (k : ∀ v T' L, Stand p l e R (s.setVm T'.vm) m args below meth c T' (locs ++ L) (cells + rc) (slots + rs) → Qc v T'.heap L → CHr Z EL vm0 h T'.vm T'.heap → own_Bk Z EL s h0 T'.vm T'.heap → Z.Warmed39 T'.vm → T'.vm.findClass own = some m.cls → own_Go p e below P T' { g with pc := g.pc + 3, stack := v.toList ++ rest }) : own_Go p e below P T g := by
  obtain ⟨v, vm₁, ⟨T', L', k', n'⟩, -, X', hS', hgr, ⟨L, hQ, l1, y1, z1, hC⟩, st⟩ := X.virtualBackS hx hown hlink hdecl hnf hsel hinst hy hK hcB hrecv hg hsize (Steps.refl _) hlen hstack hW hdg (fun _ _ => ⟨ha, eT, hc, hs⟩)
  dsimp only [Pt.U, Pt.locs, Pt.cells, Pt.slots] at X' l1 y1 z1 st hQ hS' hgr hC
  subst l1 y1 z1
  obtain ⟨⟨k0, b1, b2⟩, r⟩ := B
  have hS2 := foldS b1 (show k0 ≤ T.heap.size by rw [eT]; exact b2) hS' hgr
  exact own_st (fun t k => st.trans k) (k v T' L X' hQ hC ⟨⟨_, hS2, Nat.le_refl _⟩, r.trans hC⟩ (State.Warmed39.trans (t := s.setVm vm0) hZ hS'.1) (by rw [hS'.1.alike.findClass]; exact hown))
end OwnS

theorem own_EL {Z : State} {a0 : Array Value} (hw : ∀ d ∈ tables_1, d.before a0 Z = true) : EW Z a0 consts_1 := (EW.cons (hw _ (List.mem_of_getElem? (i := 106) rfl)) (by decide) EW.nil)
theorem own_wS {Z : State} {a0 : Array Value} (hw : ∀ d ∈ tables_1, d.before a0 Z = true) : ∀ a ∈ Bundle.stringAtoms, a.before a0 Z = true := fun d hd => hw d ((by decide +kernel : ∀ d ∈ Bundle.stringAtoms, d ∈ tables_1) d hd)
theorem own_safeNull {Z : State} {EL : List (String × Nat)} {vm : Vm} {h : Heap} {x : Addr} (hal : Z.vm.Alike vm) (E : Exa Z h x "java/lang/String") (F : Fld Z h x "java/lang/String" "value" "[B" .null) : Safe Z EL vm h x := fun B => by
  obtain ⟨cell, cf, k, i, f, f1, f2, -, -, -, -, f7⟩ := F
  obtain ⟨cell', k', e1, e2, e3, -, -⟩ := E
  cases f1.symm.trans e1
  obtain ⟨p, -, u, a, -, q, -, F', rfl | rfl⟩ := B
  · cases (show h[q.sa]? = some q.sC from F'.ha).symm.trans f1
    obtain ⟨cS, ⟨⟨s1, s2, s3, ⟨cv, kv, iv, s4, s4'⟩, s5, s6, s7, s8, s9⟩, -, -⟩, -⟩ := F'
    obtain ⟨kv', z4⟩ := ff_back (U := Wst Z vm h) hal s4
    cases f2.symm.trans z4
    rw [f7] at s8
    cases s8
  · cases (show h[q.sd]? = some q.SA from F'.hd).symm.trans f1
    obtain ⟨cS, -, -, g, -⟩ := F'
    have g' : vm.findClass "[B" = some q.SA.cls := g
    rw [hal.findClass] at g'
    obtain ⟨k1, q1, q2⟩ := Vm.findClass_spec g'
    obtain ⟨k2, q3, q4⟩ := Vm.findClass_spec e2
    cases q1.symm.trans q3
    exact absurd (q2.symm.trans q4) (by decide)
theorem own_arvNe {Z : State} {h : Heap} {a b : Addr} {k k' : ClassId} {t t' : FieldType} {z z' : Int32} {vs vs' : List Value} {d d' : Value} (A : Arv Z h a k t z vs d) (B : Arv Z h b k' t' z' vs' d') (hn : t ≠ t') : a ≠ b := fun e => by
  subst e
  obtain ⟨c, ⟨a1, ⟨-, ka, a2, ca, a3⟩, -⟩, -⟩ := A
  obtain ⟨c', ⟨b1, ⟨-, kb, b2, cb, b3⟩, -⟩, -⟩ := B
  cases a1.symm.trans b1
  cases a2.symm.trans b2
  have e := a3.symm.trans b3
  injection e with _ e2
  exact hn e2
def QE (Z : State) (x : Addr) (h0 : Heap) (n0 : Nat) (v : Option Value) (h : Heap) (L : List Loc) : Prop := v = none ∧ Fr n0 L ∧ Keep h0 h [x] ∧ Exa Z h x "java/lang/String" ∧ Fld Z h x "java/lang/String" "coder" "B" (.int 0) ∧ ∃ (t : Addr) (kb : ClassId), ¬ t = x ∧ Fld Z h x "java/lang/String" "value" "[B" (.ref t) ∧ Arv Z h t kb .byte (0 : Int32) [] (.int 0)
theorem d1_0 : decode jdk_42_method_149_code 0 = .ok (.aload_n 0, 1) := by decide +kernel
theorem d1_1 : decode jdk_42_method_149_code 1 = .ok (.invokespecial 1, 3) := by decide +kernel
theorem d1_4 : decode jdk_42_method_149_code 4 = .ok (.iload_n 3, 1) := by decide +kernel
theorem d1_5 : decode jdk_42_method_149_code 5 = .ok (.ifCond .ne 22, 3) := by decide +kernel
theorem d1_8 : decode jdk_42_method_149_code 8 = .ok (.aload_n 0, 1) := by decide +kernel
theorem d1_9 : decode jdk_42_method_149_code 9 = .ok (.ldc 7, 2) := by decide +kernel
theorem d1_11 : decode jdk_42_method_149_code 11 = .ok (.getfield 9, 3) := by decide +kernel
theorem d1_14 : decode jdk_42_method_149_code 14 = .ok (.putfield 9, 3) := by decide +kernel
theorem d1_17 : decode jdk_42_method_149_code 17 = .ok (.aload_n 0, 1) := by decide +kernel
theorem d1_18 : decode jdk_42_method_149_code 18 = .ok (.ldc 7, 2) := by decide +kernel
theorem d1_20 : decode jdk_42_method_149_code 20 = .ok (.getfield 15, 3) := by decide +kernel
theorem d1_23 : decode jdk_42_method_149_code 23 = .ok (.putfield 15, 3) := by decide +kernel
theorem d1_26 : decode jdk_42_method_149_code 26 = .ok (.return_, 1) := by decide +kernel
theorem pn_0 : plainName "java/lang/String" = true := by first | (simp [plainName, overriddenIn]; done) | decide +kernel
theorem ef_rmE1 (m : MethodId) (x0 : Addr) (x1 : Addr) (x2 : Int32) (x3 : Int32) : entryFrame m #[(.ref x0), (.ref x1), (.int x2), (.int x3), .null] 6 = mkF m 0 #[.val (.ref x0), .val (.ref x1), .val (.int x2), .val (.int x3), .val .null, .unset] [] := by first | (simp [entryFrame, mkF, argsToLocals, Value.category]; done) | rfl
set_option maxRecDepth 65536 in
set_option maxHeartbeats 40000000 in
theorem rmE1 (l : Launch) (Z : State) (a0 : Array Value) (hw : ∀ d ∈ tables_1, d.before a0 Z = true) (ws : List Jvm.Cond) (x b : Addr) (h0 : Heap) (n0 : Nat) (Z0 : n0 ≤ h0.size) (g_x : n0 ≤ x) (Ex : Exa Z h0 x "java/lang/String") (Fv : Fld Z h0 x "java/lang/String" "value" "[B" .null) (Fc : Fld Z h0 x "java/lang/String" "coder" "B" (.int (0 : Int32))) :
    MetFree l (⟨"java/lang/String", "<init>", "([CIILjava/lang/Void;)V"⟩ : MethodName) (head1 (Jvm.Cond.code (⟨"java/lang/String", "<init>", "([CIILjava/lang/Void;)V"⟩ : MethodName) jdk_42_method_149_code 6 none :: ws) ({ frames := 1, cells := 4, slots := 8, locals := 12 } : Room)) (fun a_ U_ => a_ = #[(.ref x), (.ref b), (.int (0 : Int32)), (.int (0 : Int32)), .null] ∧ Z.Warmed39 U_.vm ∧ U_.heap = h0 ∧ CHv Z consts_1 U_.vm h0) (fun _ _ _ _ _ => True) (fun _ U_ o_ U'_ => ∃ v_ L_, o_ = .returned v_ ∧ QE Z x h0 n0 v_ U'_.heap L_ ∧ CHr Z consts_1 U_.vm U_.heap U'_.vm U'_.heap ∧ ReturnedEndW U_ o_ U'_ L_ ({ frames := 1, cells := 4, slots := 8, locals := 12 } : Room).cells ({ frames := 1, cells := 4, slots := 8, locals := 12 } : Room).slots) := by
  refine MetFree.of_bodySF (plainFor_of_name pn_0) hisR ?_
  intro p e s m args below meth c s₁ Bd hml0 hP hK
  obtain ⟨rfl, hZ, hh, hC0⟩ := hP
  have hx := Bd.exec
  have hby := Bd.bytes
  have hml : c.maxLocals = 6 := hml0
  have hown : s.vm.findClass "java/lang/String" = some m.cls := findClass_of_methodNamed Bd.named
  have hnm := (name_of_methodNamed Bd.named Bd.method).1
  have hlk := BodyLoose.notSynchronized Bd
  have X0 : Stand p l e ({ frames := 1, cells := 4, slots := 8, locals := 12 } : Room) (s.setVm s.vm) m #[(.ref x), (.ref b), (.int (0 : Int32)), (.int (0 : Int32)), .null] below meth c s₁ [] 0 0 := Stand.of_body Bd
  have e0 : s₁.heap = h0 := by rw [← hh, Bd.state]; rfl
  have N0 := Fr.nil n0
  have hEL := own_EL hw
  have B0 : own_Bk Z consts_1 s h0 s.vm h0 := own_Bk.start hC0
  refine own_entry (P := own_EndS Z consts_1 s (QE Z x h0 n0) ({ frames := 1, cells := 4, slots := 8, locals := 12 } : Room).cells ({ frames := 1, cells := 4, slots := 8, locals := 12 } : Room).slots) (ef_rmE1 m x b (0 : Int32) (0 : Int32)) ?_
  show own_Go p e below _ s₁ (mkF m 0 #[.val (.ref x), .val (.ref b), .val (.int (0 : Int32)), .val (.int (0 : Int32)), .val .null, .unset] [])
  have Sfx := own_safeNull (EL := consts_1) hZ.alike Ex Fv
  refine own_st (fun t_ k_ => XS.aloadN X0.here hx rfl (hb hby d1_0) rfl rfl k_) ?_
  show own_Go p e below _ s₁ (mkF m 1 #[.val (.ref x), .val (.ref b), .val (.int (0 : Int32)), .val (.int (0 : Int32)), .val .null, .unset] [(.ref x)])
  obtain ⟨T1, X1, e1, st1⟩ := initO X0 hx hZ hown (hw _ (List.mem_of_getElem? (i := 17) rfl)) (hw _ (List.mem_of_getElem? (i := 18) rfl)) (hw _ (List.mem_of_getElem? (i := 19) rfl)) e0 (g := (mkF m 1 #[.val (.ref x), .val (.ref b), .val (.int (0 : Int32)), .val (.int (0 : Int32)), .val .null, .unset] [(.ref x)])) rfl (by rw [hml]; rfl) rfl (hb hby d1_1) (by decide) (W := 0) (by show 2 * 0 + _ ≤ _; exact Nat.le_of_eq rfl) (by decide)
  refine own_st st1 ?_
  show own_Go p e below _ T1 (mkF m 4 #[.val (.ref x), .val (.ref b), .val (.int (0 : Int32)), .val (.int (0 : Int32)), .val .null, .unset] [])
  refine own_st (fun t_ k_ => XS.iloadN X1.here hx rfl (hb hby d1_4) rfl k_) ?_
  show own_Go p e below _ T1 (mkF m 5 #[.val (.ref x), .val (.ref b), .val (.int (0 : Int32)), .val (.int (0 : Int32)), .val .null, .unset] [(.int (0 : Int32))])
  refine own_st (fun t_ k_ => XS.ifNo X1.here hx rfl (hb hby d1_5) rfl (by decide) k_) ?_
  show own_Go p e below _ T1 (mkF m 8 #[.val (.ref x), .val (.ref b), .val (.int (0 : Int32)), .val (.int (0 : Int32)), .val .null, .unset] [])
  refine own_st (fun t_ k_ => XS.aloadN X1.here hx rfl (hb hby d1_8) rfl rfl k_) ?_
  show own_Go p e below _ T1 (mkF m 9 #[.val (.ref x), .val (.ref b), .val (.int (0 : Int32)), .val (.int (0 : Int32)), .val .null, .unset] [(.ref x)])
  obtain ⟨la2, T2, h2, lb2, kb2, X2, e2, E2, hZ, hown, Ex2, Cd2, Vl2, Ar2, CH2, B2, ns2, st2⟩ := own_ldc X1 hx hZ hown (hw _ (List.mem_of_getElem? (i := 106) rfl)) (own_wS hw) e1 hEL (by decide) B0 (vs := []) (z := (0 : Int32)) ⟨by decide, rfl⟩ (by decide) rfl (g := (mkF m 9 #[.val (.ref x), .val (.ref b), .val (.int (0 : Int32)), .val (.int (0 : Int32)), .val .null, .unset] [(.ref x)])) rfl (hb hby d1_9) (n := 0) (by decide) (by decide) (by decide) (by decide)
  have hZ : Z.Warmed39 (s.setVm T2.vm).vm := hZ
  have hown : (s.setVm T2.vm).vm.findClass "java/lang/String" = some m.cls := hown
  refine own_st st2 ?_
  have K2 : Keep h0 h2 [x] := (Keep.refl h0 [x]).ext E2
  have hpl2 : ∀ c ∈ ([] : List Int32), ¬ c < 0 ∧ ¬ (255 : Int32) < c := by decide
  show own_Go p e below _ T2 (mkF m 11 #[.val (.ref x), .val (.ref b), .val (.int (0 : Int32)), .val (.int (0 : Int32)), .val .null, .unset] [(.ref la2), (.ref x)])
  obtain ⟨T3, X3, e3, st3⟩ := getF X2 hx hZ hown (host := "") (Or.inl (hw _ (List.mem_of_getElem? (i := 34) rfl))) Via.refl e2 Vl2 (g := (mkF m 11 #[.val (.ref x), .val (.ref b), .val (.int (0 : Int32)), .val (.int (0 : Int32)), .val .null, .unset] [(.ref la2), (.ref x)])) rfl rfl (hb hby d1_11)
  refine own_st st3 ?_
  show own_Go p e below _ T3 (mkF m 14 #[.val (.ref x), .val (.ref b), .val (.int (0 : Int32)), .val (.int (0 : Int32)), .val .null, .unset] [(.ref lb2), (.ref x)])
  have f5 := (Fld.ext E2 Fv)
  have f6 := (Exa.ext E2 Ex)
  obtain ⟨T4, h4, X4, e4, W4, st4⟩ := putF X3 hx hZ hown (host := "") (Or.inl (hw _ (List.mem_of_getElem? (i := 34) rfl))) Via.refl e3 f5 f6 (Or.inr ⟨(hw _ (List.mem_of_getElem? (i := 35) rfl)), rfl, hnm⟩) (hw _ (List.mem_of_getElem? (i := 8) rfl)) (ty := (.array .byte)) (by decide) rfl rfl (g := (mkF m 14 #[.val (.ref x), .val (.ref b), .val (.int (0 : Int32)), .val (.int (0 : Int32)), .val .null, .unset] [(.ref lb2), (.ref x)])) rfl rfl (hb hby d1_14)
  refine own_st st4 ?_
  have f7 := (CHr.safe CH2 Ex.lt Sfx)
  have Sw4 := f7
  have B4 := own_Bk.wr W4 Sw4 B2
  have N4 := Fr.snoc X4 N0 g_x
  have K4 : Keep h0 h4 [x] := K2.wr W4 (Or.inl (List.mem_of_getElem? (i := 0) rfl))
  have Fw4 := Fld.same W4 f5
  show own_Go p e below _ T4 (mkF m 17 #[.val (.ref x), .val (.ref b), .val (.int (0 : Int32)), .val (.int (0 : Int32)), .val .null, .unset] [])
  refine own_st (fun t_ k_ => XS.aloadN X4.here hx rfl (hb hby d1_17) rfl rfl k_) ?_
  show own_Go p e below _ T4 (mkF m 18 #[.val (.ref x), .val (.ref b), .val (.int (0 : Int32)), .val (.int (0 : Int32)), .val .null, .unset] [(.ref x)])
  have f9 := (Safe.wr W4 Sw4 (own_Bk.ch B2) f7)
  obtain ⟨la8, T8, h8, lb8, kb8, X8, e8, E8, hZ, hown, Ex8, Cd8, Vl8, Ar8, CH8, B8, ns8, st8⟩ := own_ldc X4 hx hZ hown (hw _ (List.mem_of_getElem? (i := 106) rfl)) (own_wS hw) e4 hEL (by decide) B4 (vs := []) (z := (0 : Int32)) ⟨by decide, rfl⟩ (by decide) rfl (g := (mkF m 18 #[.val (.ref x), .val (.ref b), .val (.int (0 : Int32)), .val (.int (0 : Int32)), .val .null, .unset] [(.ref x)])) rfl (hb hby d1_18) (n := 0) (by decide) (by decide) (by decide) (by decide)
  have hZ : Z.Warmed39 (s.setVm T8.vm).vm := hZ
  have hown : (s.setVm T8.vm).vm.findClass "java/lang/String" = some m.cls := hown
  refine own_st st8 ?_
  have K8 : Keep h0 h8 [x] := K4.ext E8
  have hpl8 : ∀ c ∈ ([] : List Int32), ¬ c < 0 ∧ ¬ (255 : Int32) < c := by decide
  show own_Go p e below _ T8 (mkF m 20 #[.val (.ref x), .val (.ref b), .val (.int (0 : Int32)), .val (.int (0 : Int32)), .val .null, .unset] [(.ref la8), (.ref x)])
  obtain ⟨T10, X10, e10, st10⟩ := getF X8 hx hZ hown (host := "") (Or.inl (hw _ (List.mem_of_getElem? (i := 32) rfl))) Via.refl e8 Cd8 (g := (mkF m 20 #[.val (.ref x), .val (.ref b), .val (.int (0 : Int32)), .val (.int (0 : Int32)), .val .null, .unset] [(.ref la8), (.ref x)])) rfl rfl (hb hby d1_20)
  refine own_st st10 ?_
  show own_Go p e below _ T10 (mkF m 23 #[.val (.ref x), .val (.ref b), .val (.int (0 : Int32)), .val (.int (0 : Int32)), .val .null, .unset] [(.int (0 : Int32)), (.ref x)])
  have f12 := (Fld.ext E2 Fc)
  have f13 := (Fld.other W4 f12 (Or.inr (slot_ne (Or.inr (hw _ (List.mem_of_getElem? (i := 33) rfl))) (Or.inr (hw _ (List.mem_of_getElem? (i := 35) rfl))) (by decide) (t := .byte) (t' := (.array .byte)) (by decide) (by decide))))
  have f14 := (Fld.ext E8 f13)
  have f15 := (Exa.wr W4 f6)
  have f16 := (Exa.ext E8 f15)
  obtain ⟨T11, h11, X11, e11, W11, st11⟩ := putFN X10 hx hZ hown (hw _ (List.mem_of_getElem? (i := 32) rfl)) Via.refl e10 f14 f16 (Or.inr ⟨(hw _ (List.mem_of_getElem? (i := 33) rfl)), rfl, hnm⟩) (hw _ (List.mem_of_getElem? (i := 8) rfl)) (ty := .byte) (v' := (.int (0 : Int32))) (by decide) rfl (by decide) (g := (mkF m 23 #[.val (.ref x), .val (.ref b), .val (.int (0 : Int32)), .val (.int (0 : Int32)), .val .null, .unset] [(.int (0 : Int32)), (.ref x)])) rfl rfl (hb hby d1_23)
  refine own_st st11 ?_
  have f17 := (CHr.safe CH8 f15.lt f9)
  have Sw11 := f17
  have B11 := own_Bk.wr W11 Sw11 B8
  have N11 := Fr.snoc X11 N4 g_x
  have K11 : Keep h0 h11 [x] := K8.wr W11 (Or.inl (List.mem_of_getElem? (i := 0) rfl))
  have Fw11 := Fld.same W11 f14
  show own_Go p e below _ T11 (mkF m 26 #[.val (.ref x), .val (.ref b), .val (.int (0 : Int32)), .val (.int (0 : Int32)), .val .null, .unset] [])
  have f18 := (Fld.ext E8 Fw4)
  have f19 := (Fld.other W11 f18 (Or.inr (slot_ne (Or.inr (hw _ (List.mem_of_getElem? (i := 35) rfl))) (Or.inr (hw _ (List.mem_of_getElem? (i := 33) rfl))) (by decide) (t := (.array .byte)) (t' := .byte) (by decide) (by decide))))
  have f20 := (Exa.wr W11 f16)
  have ne21 : x ≠ lb2 := (ns2 _ f7).2
  have f22 := (Ar2.other W4 (Ne.symm ne21))
  have f23 := (f22.ext E8)
  have f24 := (f23.other W11 (Ne.symm ne21))
  refine own_ret0S X11 hx hlk hZ hEL e11 hh B11 Bd.returns (hb hby d1_26) ?_ (by decide) (by decide)
  show QE Z x h0 n0 _ T11.heap _
  rw [e11]
  exact ⟨rfl, N11, K11, f20, Fw11, lb2, _, (Ne.symm ne21), f19, f24⟩
theorem d2_0 : decode jdk_42_method_3_code 0 = .ok (.aload_n 0, 1) := by decide +kernel
theorem d2_1 : decode jdk_42_method_3_code 1 = .ok (.aload_n 1, 1) := by decide +kernel
theorem d2_2 : decode jdk_42_method_3_code 2 = .ok (.iconst 0, 1) := by decide +kernel
theorem d2_3 : decode jdk_42_method_3_code 3 = .ok (.aload_n 1, 1) := by decide +kernel
theorem d2_4 : decode jdk_42_method_3_code 4 = .ok (.arraylength, 1) := by decide +kernel
theorem d2_5 : decode jdk_42_method_3_code 5 = .ok (.aconst_null, 1) := by decide +kernel
theorem d2_6 : decode jdk_42_method_3_code 6 = .ok (.invokespecial 27, 3) := by decide +kernel
theorem pd_0 : parseMethodDescriptor "([CIILjava/lang/Void;)V" = some ⟨[(.array .char), .int, .int, (.object "java/lang/Void")], none⟩ := by decide +kernel
theorem d2_9 : decode jdk_42_method_3_code 9 = .ok (.return_, 1) := by decide +kernel
theorem ef_rmE0 (m : MethodId) (x0 : Addr) (x1 : Addr) : entryFrame m #[(.ref x0), (.ref x1)] 2 = mkF m 0 #[.val (.ref x0), .val (.ref x1)] [] := by first | (simp [entryFrame, mkF, argsToLocals, Value.category]; done) | rfl
set_option maxRecDepth 65536 in
set_option maxHeartbeats 40000000 in
theorem rmE0 (l : Launch) (Z : State) (a0 : Array Value) (hw : ∀ d ∈ tables_1, d.before a0 Z = true) (ws : List Jvm.Cond) (x b : Addr) (kc : ClassId) (h0 : Heap) (n0 : Nat) (Z0 : n0 ≤ h0.size) (g_x : n0 ≤ x) (Ex : Exa Z h0 x "java/lang/String") (Fv : Fld Z h0 x "java/lang/String" "value" "[B" .null) (Fc : Fld Z h0 x "java/lang/String" "coder" "B" (.int (0 : Int32))) (Ab : Arv Z h0 b kc .char (0 : Int32) [] (.int (0 : Int32))) :
    MetFree l (⟨"java/lang/String", "<init>", "([C)V"⟩ : MethodName) (head1 (Jvm.Cond.code (⟨"java/lang/String", "<init>", "([C)V"⟩ : MethodName) jdk_42_method_3_code 2 none :: ws) ({ frames := 2, cells := 4, slots := 8, locals := 29 } : Room)) (fun a_ U_ => a_ = #[(.ref x), (.ref b)] ∧ Z.Warmed39 U_.vm ∧ U_.heap = h0 ∧ CHv Z consts_1 U_.vm h0) (fun _ _ _ _ _ => True) (fun _ U_ o_ U'_ => ∃ v_ L_, o_ = .returned v_ ∧ QE Z x h0 n0 v_ U'_.heap L_ ∧ CHr Z consts_1 U_.vm U_.heap U'_.vm U'_.heap ∧ ReturnedEndW U_ o_ U'_ L_ ({ frames := 2, cells := 4, slots := 8, locals := 29 } : Room).cells ({ frames := 2, cells := 4, slots := 8, locals := 29 } : Room).slots) := by
  refine MetFree.of_bodySF (plainFor_of_name pn_0) hisR ?_
  intro p e s m args below meth c s₁ Bd hml0 hP hK
  obtain ⟨rfl, hZ, hh, hC0⟩ := hP
  have hx := Bd.exec
  have hby := Bd.bytes
  have hml : c.maxLocals = 2 := hml0
  have hown : s.vm.findClass "java/lang/String" = some m.cls := findClass_of_methodNamed Bd.named
  have hnm := (name_of_methodNamed Bd.named Bd.method).1
  have hlk := BodyLoose.notSynchronized Bd
  have X0 : Stand p l e ({ frames := 2, cells := 4, slots := 8, locals := 29 } : Room) (s.setVm s.vm) m #[(.ref x), (.ref b)] below meth c s₁ [] 0 0 := Stand.of_body Bd
  have e0 : s₁.heap = h0 := by rw [← hh, Bd.state]; rfl
  have N0 := Fr.nil n0
  have hEL := own_EL hw
  have B0 : own_Bk Z consts_1 s h0 s.vm h0 := own_Bk.start hC0
  refine own_entry (P := own_EndS Z consts_1 s (QE Z x h0 n0) ({ frames := 2, cells := 4, slots := 8, locals := 29 } : Room).cells ({ frames := 2, cells := 4, slots := 8, locals := 29 } : Room).slots) (ef_rmE0 m x b) ?_
  show own_Go p e below _ s₁ (mkF m 0 #[.val (.ref x), .val (.ref b)] [])
  have Sfx := own_safeNull (EL := consts_1) hZ.alike Ex Fv
  refine own_st (fun t_ k_ => XS.aloadN X0.here hx rfl (hb hby d2_0) rfl rfl k_) ?_
  show own_Go p e below _ s₁ (mkF m 1 #[.val (.ref x), .val (.ref b)] [(.ref x)])
  refine own_st (fun t_ k_ => XS.aloadN X0.here hx rfl (hb hby d2_1) rfl rfl k_) ?_
  show own_Go p e below _ s₁ (mkF m 2 #[.val (.ref x), .val (.ref b)] [(.ref b), (.ref x)])
  refine own_st (fun t_ k_ => XS.iconst X0.here hx rfl (hb hby d2_2) k_) ?_
  show own_Go p e below _ s₁ (mkF m 3 #[.val (.ref x), .val (.ref b)] [(.int (0 : Int32)), (.ref b), (.ref x)])
  refine own_st (fun t_ k_ => XS.aloadN X0.here hx rfl (hb hby d2_3) rfl rfl k_) ?_
  show own_Go p e below _ s₁ (mkF m 4 #[.val (.ref x), .val (.ref b)] [(.ref b), (.int (0 : Int32)), (.ref b), (.ref x)])
  obtain ⟨cl1, Ar1, -, S1, N1', -, -⟩ := id Ab
  refine own_st (fun t_ k_ => X0.arraylength hx (by rw [e0]; exact Ar1.1) (State.isArrayOf_alike hZ.alike Ar1.2.1) (g := (mkF m 4 #[.val (.ref x), .val (.ref b)] [(.ref b), (.int (0 : Int32)), (.ref b), (.ref x)])) rfl rfl (hb hby d2_4) t_ k_) ?_
  rw [len_of S1 N1']
  show own_Go p e below _ s₁ (mkF m 5 #[.val (.ref x), .val (.ref b)] [(.int (0 : Int32)), (.int (0 : Int32)), (.ref b), (.ref x)])
  refine own_st (fun t_ k_ => XS.aconstNull X0.here hx rfl (hb hby d2_5) k_) ?_
  show own_Go p e below _ s₁ (mkF m 6 #[.val (.ref x), .val (.ref b)] [.null, (.int (0 : Int32)), (.int (0 : Int32)), (.ref b), (.ref x)])
  refine own_callNS X0 hx (y := (⟨"java/lang/String", "<init>", "([CIILjava/lang/Void;)V"⟩ : MethodName)) rfl hown (mvT hZ (hw _ (List.mem_of_getElem? (i := 13) rfl))) (mvT hZ (hw _ (List.mem_of_getElem? (i := 14) rfl))) (mvT hZ (hw _ (List.mem_of_getElem? (i := 16) rfl))) (by decide) (backOfSH (W := 0) (rmE1 l Z a0 hw [] x b h0 n0 (Nat.le_trans Z0 (Keep.refl h0 [x]).1) g_x Ex Fv Fc) hZ (hw _ (List.mem_of_getElem? (i := 16) rfl)) (hw _ (List.mem_of_getElem? (i := 9) rfl)) (by decide) (by decide) hEL (own_Bk.ch B0)) (a := x) (g := (mkF m 6 #[.val (.ref x), .val (.ref b)] [.null, (.int (0 : Int32)), (.int (0 : Int32)), (.ref b), (.ref x)])) rfl (by rw [hml]; rfl) (argsL := [(.ref b), (.int (0 : Int32)), (.int (0 : Int32)), .null]) (rest := []) (lenOf pd_0 rfl) rfl (by show 2 * 0 + _ ≤ _; exact Nat.le_of_eq rfl) (hb hby d2_6) rfl e0 (by decide) (by decide) hZ B0 ?_
  rintro v2 T2 L2 X2 ⟨rfl, Nq2, Kq2, Eq2, Cq2, t2, kb2, nt2, Vq2, Aq2⟩ CH2 B2 hZ hown
  have hZ : Z.Warmed39 (s.setVm T2.vm).vm := hZ
  have hown : (s.setVm T2.vm).vm.findClass "java/lang/String" = some m.cls := hown
  have N2 := Fr.app N0 Nq2
  have K2 : Keep h0 T2.heap [x] := (Keep.refl h0 [x]).trans Kq2 (allS (Or.inl (List.mem_of_getElem? (i := 0) rfl)) all0)
  show own_Go p e below _ T2 (mkF m 9 #[.val (.ref x), .val (.ref b)] [])
  refine own_ret0S X2 hx hlk hZ hEL rfl hh B2 Bd.returns (hb hby d2_9) ?_ (by decide) (by decide)
  show QE Z x h0 n0 _ T2.heap _
  exact ⟨rfl, N2, K2, Eq2, Cq2, t2, kb2, nt2, Vq2, Aq2⟩
def QM (Z : State) (cs : List Int32) (h0 : Heap) (n0 : Nat) (v : Option Value) (h : Heap) (L : List Loc) : Prop := ∃ (x t : Addr) (kb : ClassId), v = some (.ref x) ∧ Fr n0 L ∧ Keep h0 h [] ∧ h0.size ≤ x ∧ n0 ≤ x ∧ ¬ t = x ∧ Exa Z h x "java/lang/String" ∧ Fld Z h x "java/lang/String" "coder" "B" (.int 0) ∧ Fld Z h x "java/lang/String" "value" "[B" (.ref t) ∧ Arv Z h t kb .byte (Int32.ofNat cs.length) ((cs.map (fun c => c.toInt8.toInt32)).map Value.int) (.int 0) ∧ ∀ c ∈ cs, ¬ c < 0 ∧ ¬ (255 : Int32) < c
def own_N9 (n : Int32) : Prop := n = (0 : Int32) ∨ n = (1 : Int32) ∨ n = (2 : Int32) ∨ n = (3 : Int32) ∨ n = (4 : Int32) ∨ n = (5 : Int32) ∨ n = (6 : Int32) ∨ n = (7 : Int32) ∨ n = (8 : Int32)
def own_L8 (x0 x1 x2 x3 x4 x5 x6 x7 : Int32) : Prop := own_L x0 ∧ own_L x1 ∧ own_L x2 ∧ own_L x3 ∧ own_L x4 ∧ own_L x5 ∧ own_L x6 ∧ own_L x7
def own_str (n : Int32) (l : List Int32) : List Int32 := l.take n.toNatClampNeg
theorem own_pickL (x : Int64) : own_L (nar .char ((x &&& (255 : Int64)).toInt32.toUInt32.toUInt16.toUInt32.toInt32)) := by
  have h1 := c_maskL x (255 : Int64) 8 (by decide) (by decide)
  have h2 := c_l2i (x &&& (255 : Int64))
  have r := rng32 (x &&& (255 : Int64)).toInt32
  have hl : own_L (x &&& (255 : Int64)).toInt32 := ⟨by omega, by omega⟩
  have e : (x &&& (255 : Int64)).toInt32.toUInt32.toUInt16.toUInt32.toInt32 = (x &&& (255 : Int64)).toInt32 := (own_lat _ hl).1
  rw [e, (own_lat _ hl).1]
  exact hl
theorem own_i2cLN (x : Int32) : own_L (nar .char ((x &&& (255 : Int32)).toUInt32.toUInt16.toUInt32.toInt32)) := by
  rw [own_LN (own_i2cL x)]; exact own_i2cL x
theorem d3_0 : decode method_3_code 0 = .ok (.iload_n 0, 1) := by decide +kernel
theorem d3_1 : decode method_3_code 1 = .ok (.ifCond .ne 14, 3) := by decide +kernel
theorem d3_4 : decode method_3_code 4 = .ok (.new 45, 3) := by decide +kernel
theorem d3_7 : decode method_3_code 7 = .ok (.dup, 1) := by decide +kernel
theorem d3_8 : decode method_3_code 8 = .ok (.iconst 0, 1) := by decide +kernel
theorem d3_9 : decode method_3_code 9 = .ok (.newarray .char, 2) := by decide +kernel
theorem d3_11 : decode method_3_code 11 = .ok (.invokespecial 47, 3) := by decide +kernel
theorem pd_1 : parseMethodDescriptor "([C)V" = some ⟨[(.array .char)], none⟩ := by decide +kernel
theorem d3_14 : decode method_3_code 14 = .ok (.areturn, 1) := by decide +kernel
theorem d3_15 : decode method_3_code 15 = .ok (.iload_n 0, 1) := by decide +kernel
theorem d3_16 : decode method_3_code 16 = .ok (.iconst 1, 1) := by decide +kernel
theorem d3_17 : decode method_3_code 17 = .ok (.if_icmp .ne 20, 3) := by decide +kernel
theorem d3_20 : decode method_3_code 20 = .ok (.new 45, 3) := by decide +kernel
theorem d3_23 : decode method_3_code 23 = .ok (.dup, 1) := by decide +kernel
theorem d3_24 : decode method_3_code 24 = .ok (.iconst 1, 1) := by decide +kernel
theorem d3_25 : decode method_3_code 25 = .ok (.newarray .char, 2) := by decide +kernel
theorem d3_27 : decode method_3_code 27 = .ok (.dup, 1) := by decide +kernel
theorem d3_28 : decode method_3_code 28 = .ok (.iconst 0, 1) := by decide +kernel
theorem d3_29 : decode method_3_code 29 = .ok (.aload_n 1, 1) := by decide +kernel
theorem d3_30 : decode method_3_code 30 = .ok (.iconst 0, 1) := by decide +kernel
theorem d3_31 : decode method_3_code 31 = .ok (.caload, 1) := by decide +kernel
theorem d3_32 : decode method_3_code 32 = .ok (.castore, 1) := by decide +kernel
theorem d3_33 : decode method_3_code 33 = .ok (.invokespecial 47, 3) := by decide +kernel
theorem d3_36 : decode method_3_code 36 = .ok (.areturn, 1) := by decide +kernel
theorem d3_37 : decode method_3_code 37 = .ok (.iload_n 0, 1) := by decide +kernel
theorem d3_38 : decode method_3_code 38 = .ok (.iconst 2, 1) := by decide +kernel
theorem d3_39 : decode method_3_code 39 = .ok (.if_icmp .ne 26, 3) := by decide +kernel
theorem d3_42 : decode method_3_code 42 = .ok (.new 45, 3) := by decide +kernel
theorem d3_45 : decode method_3_code 45 = .ok (.dup, 1) := by decide +kernel
theorem d3_46 : decode method_3_code 46 = .ok (.iconst 2, 1) := by decide +kernel
theorem d3_47 : decode method_3_code 47 = .ok (.newarray .char, 2) := by decide +kernel
theorem d3_49 : decode method_3_code 49 = .ok (.dup, 1) := by decide +kernel
theorem d3_50 : decode method_3_code 50 = .ok (.iconst 0, 1) := by decide +kernel
theorem d3_51 : decode method_3_code 51 = .ok (.aload_n 1, 1) := by decide +kernel
theorem d3_52 : decode method_3_code 52 = .ok (.iconst 0, 1) := by decide +kernel
theorem d3_53 : decode method_3_code 53 = .ok (.caload, 1) := by decide +kernel
theorem d3_54 : decode method_3_code 54 = .ok (.castore, 1) := by decide +kernel
theorem d3_55 : decode method_3_code 55 = .ok (.dup, 1) := by decide +kernel
theorem d3_56 : decode method_3_code 56 = .ok (.iconst 1, 1) := by decide +kernel
theorem d3_57 : decode method_3_code 57 = .ok (.aload_n 1, 1) := by decide +kernel
theorem d3_58 : decode method_3_code 58 = .ok (.iconst 1, 1) := by decide +kernel
theorem d3_59 : decode method_3_code 59 = .ok (.caload, 1) := by decide +kernel
theorem d3_60 : decode method_3_code 60 = .ok (.castore, 1) := by decide +kernel
theorem d3_61 : decode method_3_code 61 = .ok (.invokespecial 47, 3) := by decide +kernel
theorem d3_64 : decode method_3_code 64 = .ok (.areturn, 1) := by decide +kernel
theorem d3_65 : decode method_3_code 65 = .ok (.iload_n 0, 1) := by decide +kernel
theorem d3_66 : decode method_3_code 66 = .ok (.iconst 3, 1) := by decide +kernel
theorem d3_67 : decode method_3_code 67 = .ok (.if_icmp .ne 32, 3) := by decide +kernel
theorem d3_70 : decode method_3_code 70 = .ok (.new 45, 3) := by decide +kernel
theorem d3_73 : decode method_3_code 73 = .ok (.dup, 1) := by decide +kernel
theorem d3_74 : decode method_3_code 74 = .ok (.iconst 3, 1) := by decide +kernel
theorem d3_75 : decode method_3_code 75 = .ok (.newarray .char, 2) := by decide +kernel
theorem d3_77 : decode method_3_code 77 = .ok (.dup, 1) := by decide +kernel
theorem d3_78 : decode method_3_code 78 = .ok (.iconst 0, 1) := by decide +kernel
theorem d3_79 : decode method_3_code 79 = .ok (.aload_n 1, 1) := by decide +kernel
theorem d3_80 : decode method_3_code 80 = .ok (.iconst 0, 1) := by decide +kernel
theorem d3_81 : decode method_3_code 81 = .ok (.caload, 1) := by decide +kernel
theorem d3_82 : decode method_3_code 82 = .ok (.castore, 1) := by decide +kernel
theorem d3_83 : decode method_3_code 83 = .ok (.dup, 1) := by decide +kernel
theorem d3_84 : decode method_3_code 84 = .ok (.iconst 1, 1) := by decide +kernel
theorem d3_85 : decode method_3_code 85 = .ok (.aload_n 1, 1) := by decide +kernel
theorem d3_86 : decode method_3_code 86 = .ok (.iconst 1, 1) := by decide +kernel
theorem d3_87 : decode method_3_code 87 = .ok (.caload, 1) := by decide +kernel
theorem d3_88 : decode method_3_code 88 = .ok (.castore, 1) := by decide +kernel
theorem d3_89 : decode method_3_code 89 = .ok (.dup, 1) := by decide +kernel
theorem d3_90 : decode method_3_code 90 = .ok (.iconst 2, 1) := by decide +kernel
theorem d3_91 : decode method_3_code 91 = .ok (.aload_n 1, 1) := by decide +kernel
theorem d3_92 : decode method_3_code 92 = .ok (.iconst 2, 1) := by decide +kernel
theorem d3_93 : decode method_3_code 93 = .ok (.caload, 1) := by decide +kernel
theorem d3_94 : decode method_3_code 94 = .ok (.castore, 1) := by decide +kernel
theorem d3_95 : decode method_3_code 95 = .ok (.invokespecial 47, 3) := by decide +kernel
theorem d3_98 : decode method_3_code 98 = .ok (.areturn, 1) := by decide +kernel
theorem d3_99 : decode method_3_code 99 = .ok (.iload_n 0, 1) := by decide +kernel
theorem d3_100 : decode method_3_code 100 = .ok (.iconst 4, 1) := by decide +kernel
theorem d3_101 : decode method_3_code 101 = .ok (.if_icmp .ne 38, 3) := by decide +kernel
theorem d3_104 : decode method_3_code 104 = .ok (.new 45, 3) := by decide +kernel
theorem d3_107 : decode method_3_code 107 = .ok (.dup, 1) := by decide +kernel
theorem d3_108 : decode method_3_code 108 = .ok (.iconst 4, 1) := by decide +kernel
theorem d3_109 : decode method_3_code 109 = .ok (.newarray .char, 2) := by decide +kernel
theorem d3_111 : decode method_3_code 111 = .ok (.dup, 1) := by decide +kernel
theorem d3_112 : decode method_3_code 112 = .ok (.iconst 0, 1) := by decide +kernel
theorem d3_113 : decode method_3_code 113 = .ok (.aload_n 1, 1) := by decide +kernel
theorem d3_114 : decode method_3_code 114 = .ok (.iconst 0, 1) := by decide +kernel
theorem d3_115 : decode method_3_code 115 = .ok (.caload, 1) := by decide +kernel
theorem d3_116 : decode method_3_code 116 = .ok (.castore, 1) := by decide +kernel
theorem d3_117 : decode method_3_code 117 = .ok (.dup, 1) := by decide +kernel
theorem d3_118 : decode method_3_code 118 = .ok (.iconst 1, 1) := by decide +kernel
theorem d3_119 : decode method_3_code 119 = .ok (.aload_n 1, 1) := by decide +kernel
theorem d3_120 : decode method_3_code 120 = .ok (.iconst 1, 1) := by decide +kernel
theorem d3_121 : decode method_3_code 121 = .ok (.caload, 1) := by decide +kernel
theorem d3_122 : decode method_3_code 122 = .ok (.castore, 1) := by decide +kernel
theorem d3_123 : decode method_3_code 123 = .ok (.dup, 1) := by decide +kernel
theorem d3_124 : decode method_3_code 124 = .ok (.iconst 2, 1) := by decide +kernel
theorem d3_125 : decode method_3_code 125 = .ok (.aload_n 1, 1) := by decide +kernel
theorem d3_126 : decode method_3_code 126 = .ok (.iconst 2, 1) := by decide +kernel
theorem d3_127 : decode method_3_code 127 = .ok (.caload, 1) := by decide +kernel
theorem d3_128 : decode method_3_code 128 = .ok (.castore, 1) := by decide +kernel
theorem d3_129 : decode method_3_code 129 = .ok (.dup, 1) := by decide +kernel
theorem d3_130 : decode method_3_code 130 = .ok (.iconst 3, 1) := by decide +kernel
theorem d3_131 : decode method_3_code 131 = .ok (.aload_n 1, 1) := by decide +kernel
theorem d3_132 : decode method_3_code 132 = .ok (.iconst 3, 1) := by decide +kernel
theorem d3_133 : decode method_3_code 133 = .ok (.caload, 1) := by decide +kernel
theorem d3_134 : decode method_3_code 134 = .ok (.castore, 1) := by decide +kernel
theorem d3_135 : decode method_3_code 135 = .ok (.invokespecial 47, 3) := by decide +kernel
theorem d3_138 : decode method_3_code 138 = .ok (.areturn, 1) := by decide +kernel
theorem d3_139 : decode method_3_code 139 = .ok (.iload_n 0, 1) := by decide +kernel
theorem d3_140 : decode method_3_code 140 = .ok (.iconst 5, 1) := by decide +kernel
theorem d3_141 : decode method_3_code 141 = .ok (.if_icmp .ne 44, 3) := by decide +kernel
theorem d3_144 : decode method_3_code 144 = .ok (.new 45, 3) := by decide +kernel
theorem d3_147 : decode method_3_code 147 = .ok (.dup, 1) := by decide +kernel
theorem d3_148 : decode method_3_code 148 = .ok (.iconst 5, 1) := by decide +kernel
theorem d3_149 : decode method_3_code 149 = .ok (.newarray .char, 2) := by decide +kernel
theorem d3_151 : decode method_3_code 151 = .ok (.dup, 1) := by decide +kernel
theorem d3_152 : decode method_3_code 152 = .ok (.iconst 0, 1) := by decide +kernel
theorem d3_153 : decode method_3_code 153 = .ok (.aload_n 1, 1) := by decide +kernel
theorem d3_154 : decode method_3_code 154 = .ok (.iconst 0, 1) := by decide +kernel
theorem d3_155 : decode method_3_code 155 = .ok (.caload, 1) := by decide +kernel
theorem d3_156 : decode method_3_code 156 = .ok (.castore, 1) := by decide +kernel
theorem d3_157 : decode method_3_code 157 = .ok (.dup, 1) := by decide +kernel
theorem d3_158 : decode method_3_code 158 = .ok (.iconst 1, 1) := by decide +kernel
theorem d3_159 : decode method_3_code 159 = .ok (.aload_n 1, 1) := by decide +kernel
theorem d3_160 : decode method_3_code 160 = .ok (.iconst 1, 1) := by decide +kernel
theorem d3_161 : decode method_3_code 161 = .ok (.caload, 1) := by decide +kernel
theorem d3_162 : decode method_3_code 162 = .ok (.castore, 1) := by decide +kernel
theorem d3_163 : decode method_3_code 163 = .ok (.dup, 1) := by decide +kernel
theorem d3_164 : decode method_3_code 164 = .ok (.iconst 2, 1) := by decide +kernel
theorem d3_165 : decode method_3_code 165 = .ok (.aload_n 1, 1) := by decide +kernel
theorem d3_166 : decode method_3_code 166 = .ok (.iconst 2, 1) := by decide +kernel
theorem d3_167 : decode method_3_code 167 = .ok (.caload, 1) := by decide +kernel
theorem d3_168 : decode method_3_code 168 = .ok (.castore, 1) := by decide +kernel
theorem d3_169 : decode method_3_code 169 = .ok (.dup, 1) := by decide +kernel
theorem d3_170 : decode method_3_code 170 = .ok (.iconst 3, 1) := by decide +kernel
theorem d3_171 : decode method_3_code 171 = .ok (.aload_n 1, 1) := by decide +kernel
theorem d3_172 : decode method_3_code 172 = .ok (.iconst 3, 1) := by decide +kernel
theorem d3_173 : decode method_3_code 173 = .ok (.caload, 1) := by decide +kernel
theorem d3_174 : decode method_3_code 174 = .ok (.castore, 1) := by decide +kernel
theorem d3_175 : decode method_3_code 175 = .ok (.dup, 1) := by decide +kernel
theorem d3_176 : decode method_3_code 176 = .ok (.iconst 4, 1) := by decide +kernel
theorem d3_177 : decode method_3_code 177 = .ok (.aload_n 1, 1) := by decide +kernel
theorem d3_178 : decode method_3_code 178 = .ok (.iconst 4, 1) := by decide +kernel
theorem d3_179 : decode method_3_code 179 = .ok (.caload, 1) := by decide +kernel
theorem d3_180 : decode method_3_code 180 = .ok (.castore, 1) := by decide +kernel
theorem d3_181 : decode method_3_code 181 = .ok (.invokespecial 47, 3) := by decide +kernel
theorem d3_184 : decode method_3_code 184 = .ok (.areturn, 1) := by decide +kernel
theorem d3_185 : decode method_3_code 185 = .ok (.iload_n 0, 1) := by decide +kernel
theorem d3_186 : decode method_3_code 186 = .ok (.bipush 6, 2) := by decide +kernel
theorem d3_188 : decode method_3_code 188 = .ok (.if_icmp .ne 51, 3) := by decide +kernel
theorem d3_191 : decode method_3_code 191 = .ok (.new 45, 3) := by decide +kernel
theorem d3_194 : decode method_3_code 194 = .ok (.dup, 1) := by decide +kernel
theorem d3_195 : decode method_3_code 195 = .ok (.bipush 6, 2) := by decide +kernel
theorem d3_197 : decode method_3_code 197 = .ok (.newarray .char, 2) := by decide +kernel
theorem d3_199 : decode method_3_code 199 = .ok (.dup, 1) := by decide +kernel
theorem d3_200 : decode method_3_code 200 = .ok (.iconst 0, 1) := by decide +kernel
theorem d3_201 : decode method_3_code 201 = .ok (.aload_n 1, 1) := by decide +kernel
theorem d3_202 : decode method_3_code 202 = .ok (.iconst 0, 1) := by decide +kernel
theorem d3_203 : decode method_3_code 203 = .ok (.caload, 1) := by decide +kernel
theorem d3_204 : decode method_3_code 204 = .ok (.castore, 1) := by decide +kernel
theorem d3_205 : decode method_3_code 205 = .ok (.dup, 1) := by decide +kernel
theorem d3_206 : decode method_3_code 206 = .ok (.iconst 1, 1) := by decide +kernel
theorem d3_207 : decode method_3_code 207 = .ok (.aload_n 1, 1) := by decide +kernel
theorem d3_208 : decode method_3_code 208 = .ok (.iconst 1, 1) := by decide +kernel
theorem d3_209 : decode method_3_code 209 = .ok (.caload, 1) := by decide +kernel
theorem d3_210 : decode method_3_code 210 = .ok (.castore, 1) := by decide +kernel
theorem d3_211 : decode method_3_code 211 = .ok (.dup, 1) := by decide +kernel
theorem d3_212 : decode method_3_code 212 = .ok (.iconst 2, 1) := by decide +kernel
theorem d3_213 : decode method_3_code 213 = .ok (.aload_n 1, 1) := by decide +kernel
theorem d3_214 : decode method_3_code 214 = .ok (.iconst 2, 1) := by decide +kernel
theorem d3_215 : decode method_3_code 215 = .ok (.caload, 1) := by decide +kernel
theorem d3_216 : decode method_3_code 216 = .ok (.castore, 1) := by decide +kernel
theorem d3_217 : decode method_3_code 217 = .ok (.dup, 1) := by decide +kernel
theorem d3_218 : decode method_3_code 218 = .ok (.iconst 3, 1) := by decide +kernel
theorem d3_219 : decode method_3_code 219 = .ok (.aload_n 1, 1) := by decide +kernel
theorem d3_220 : decode method_3_code 220 = .ok (.iconst 3, 1) := by decide +kernel
theorem d3_221 : decode method_3_code 221 = .ok (.caload, 1) := by decide +kernel
theorem d3_222 : decode method_3_code 222 = .ok (.castore, 1) := by decide +kernel
theorem d3_223 : decode method_3_code 223 = .ok (.dup, 1) := by decide +kernel
theorem d3_224 : decode method_3_code 224 = .ok (.iconst 4, 1) := by decide +kernel
theorem d3_225 : decode method_3_code 225 = .ok (.aload_n 1, 1) := by decide +kernel
theorem d3_226 : decode method_3_code 226 = .ok (.iconst 4, 1) := by decide +kernel
theorem d3_227 : decode method_3_code 227 = .ok (.caload, 1) := by decide +kernel
theorem d3_228 : decode method_3_code 228 = .ok (.castore, 1) := by decide +kernel
theorem d3_229 : decode method_3_code 229 = .ok (.dup, 1) := by decide +kernel
theorem d3_230 : decode method_3_code 230 = .ok (.iconst 5, 1) := by decide +kernel
theorem d3_231 : decode method_3_code 231 = .ok (.aload_n 1, 1) := by decide +kernel
theorem d3_232 : decode method_3_code 232 = .ok (.iconst 5, 1) := by decide +kernel
theorem d3_233 : decode method_3_code 233 = .ok (.caload, 1) := by decide +kernel
theorem d3_234 : decode method_3_code 234 = .ok (.castore, 1) := by decide +kernel
theorem d3_235 : decode method_3_code 235 = .ok (.invokespecial 47, 3) := by decide +kernel
theorem d3_238 : decode method_3_code 238 = .ok (.areturn, 1) := by decide +kernel
theorem d3_239 : decode method_3_code 239 = .ok (.iload_n 0, 1) := by decide +kernel
theorem d3_240 : decode method_3_code 240 = .ok (.bipush 7, 2) := by decide +kernel
theorem d3_242 : decode method_3_code 242 = .ok (.if_icmp .ne 59, 3) := by decide +kernel
theorem d3_245 : decode method_3_code 245 = .ok (.new 45, 3) := by decide +kernel
theorem d3_248 : decode method_3_code 248 = .ok (.dup, 1) := by decide +kernel
theorem d3_249 : decode method_3_code 249 = .ok (.bipush 7, 2) := by decide +kernel
theorem d3_251 : decode method_3_code 251 = .ok (.newarray .char, 2) := by decide +kernel
theorem d3_253 : decode method_3_code 253 = .ok (.dup, 1) := by decide +kernel
theorem d3_254 : decode method_3_code 254 = .ok (.iconst 0, 1) := by decide +kernel
theorem d3_255 : decode method_3_code 255 = .ok (.aload_n 1, 1) := by decide +kernel
theorem d3_256 : decode method_3_code 256 = .ok (.iconst 0, 1) := by decide +kernel
theorem d3_257 : decode method_3_code 257 = .ok (.caload, 1) := by decide +kernel
theorem d3_258 : decode method_3_code 258 = .ok (.castore, 1) := by decide +kernel
theorem d3_259 : decode method_3_code 259 = .ok (.dup, 1) := by decide +kernel
theorem d3_260 : decode method_3_code 260 = .ok (.iconst 1, 1) := by decide +kernel
theorem d3_261 : decode method_3_code 261 = .ok (.aload_n 1, 1) := by decide +kernel
theorem d3_262 : decode method_3_code 262 = .ok (.iconst 1, 1) := by decide +kernel
theorem d3_263 : decode method_3_code 263 = .ok (.caload, 1) := by decide +kernel
theorem d3_264 : decode method_3_code 264 = .ok (.castore, 1) := by decide +kernel
theorem d3_265 : decode method_3_code 265 = .ok (.dup, 1) := by decide +kernel
theorem d3_266 : decode method_3_code 266 = .ok (.iconst 2, 1) := by decide +kernel
theorem d3_267 : decode method_3_code 267 = .ok (.aload_n 1, 1) := by decide +kernel
theorem d3_268 : decode method_3_code 268 = .ok (.iconst 2, 1) := by decide +kernel
theorem d3_269 : decode method_3_code 269 = .ok (.caload, 1) := by decide +kernel
theorem d3_270 : decode method_3_code 270 = .ok (.castore, 1) := by decide +kernel
theorem d3_271 : decode method_3_code 271 = .ok (.dup, 1) := by decide +kernel
theorem d3_272 : decode method_3_code 272 = .ok (.iconst 3, 1) := by decide +kernel
theorem d3_273 : decode method_3_code 273 = .ok (.aload_n 1, 1) := by decide +kernel
theorem d3_274 : decode method_3_code 274 = .ok (.iconst 3, 1) := by decide +kernel
theorem d3_275 : decode method_3_code 275 = .ok (.caload, 1) := by decide +kernel
theorem d3_276 : decode method_3_code 276 = .ok (.castore, 1) := by decide +kernel
theorem d3_277 : decode method_3_code 277 = .ok (.dup, 1) := by decide +kernel
theorem d3_278 : decode method_3_code 278 = .ok (.iconst 4, 1) := by decide +kernel
theorem d3_279 : decode method_3_code 279 = .ok (.aload_n 1, 1) := by decide +kernel
theorem d3_280 : decode method_3_code 280 = .ok (.iconst 4, 1) := by decide +kernel
theorem d3_281 : decode method_3_code 281 = .ok (.caload, 1) := by decide +kernel
theorem d3_282 : decode method_3_code 282 = .ok (.castore, 1) := by decide +kernel
theorem d3_283 : decode method_3_code 283 = .ok (.dup, 1) := by decide +kernel
theorem d3_284 : decode method_3_code 284 = .ok (.iconst 5, 1) := by decide +kernel
theorem d3_285 : decode method_3_code 285 = .ok (.aload_n 1, 1) := by decide +kernel
theorem d3_286 : decode method_3_code 286 = .ok (.iconst 5, 1) := by decide +kernel
theorem d3_287 : decode method_3_code 287 = .ok (.caload, 1) := by decide +kernel
theorem d3_288 : decode method_3_code 288 = .ok (.castore, 1) := by decide +kernel
theorem d3_289 : decode method_3_code 289 = .ok (.dup, 1) := by decide +kernel
theorem d3_290 : decode method_3_code 290 = .ok (.bipush 6, 2) := by decide +kernel
theorem d3_292 : decode method_3_code 292 = .ok (.aload_n 1, 1) := by decide +kernel
theorem d3_293 : decode method_3_code 293 = .ok (.bipush 6, 2) := by decide +kernel
theorem d3_295 : decode method_3_code 295 = .ok (.caload, 1) := by decide +kernel
theorem d3_296 : decode method_3_code 296 = .ok (.castore, 1) := by decide +kernel
theorem d3_297 : decode method_3_code 297 = .ok (.invokespecial 47, 3) := by decide +kernel
theorem d3_300 : decode method_3_code 300 = .ok (.areturn, 1) := by decide +kernel
theorem d3_301 : decode method_3_code 301 = .ok (.new 45, 3) := by decide +kernel
theorem d3_304 : decode method_3_code 304 = .ok (.dup, 1) := by decide +kernel
theorem d3_305 : decode method_3_code 305 = .ok (.bipush 8, 2) := by decide +kernel
theorem d3_307 : decode method_3_code 307 = .ok (.newarray .char, 2) := by decide +kernel
theorem d3_309 : decode method_3_code 309 = .ok (.dup, 1) := by decide +kernel
theorem d3_310 : decode method_3_code 310 = .ok (.iconst 0, 1) := by decide +kernel
theorem d3_311 : decode method_3_code 311 = .ok (.aload_n 1, 1) := by decide +kernel
theorem d3_312 : decode method_3_code 312 = .ok (.iconst 0, 1) := by decide +kernel
theorem d3_313 : decode method_3_code 313 = .ok (.caload, 1) := by decide +kernel
theorem d3_314 : decode method_3_code 314 = .ok (.castore, 1) := by decide +kernel
theorem d3_315 : decode method_3_code 315 = .ok (.dup, 1) := by decide +kernel
theorem d3_316 : decode method_3_code 316 = .ok (.iconst 1, 1) := by decide +kernel
theorem d3_317 : decode method_3_code 317 = .ok (.aload_n 1, 1) := by decide +kernel
theorem d3_318 : decode method_3_code 318 = .ok (.iconst 1, 1) := by decide +kernel
theorem d3_319 : decode method_3_code 319 = .ok (.caload, 1) := by decide +kernel
theorem d3_320 : decode method_3_code 320 = .ok (.castore, 1) := by decide +kernel
theorem d3_321 : decode method_3_code 321 = .ok (.dup, 1) := by decide +kernel
theorem d3_322 : decode method_3_code 322 = .ok (.iconst 2, 1) := by decide +kernel
theorem d3_323 : decode method_3_code 323 = .ok (.aload_n 1, 1) := by decide +kernel
theorem d3_324 : decode method_3_code 324 = .ok (.iconst 2, 1) := by decide +kernel
theorem d3_325 : decode method_3_code 325 = .ok (.caload, 1) := by decide +kernel
theorem d3_326 : decode method_3_code 326 = .ok (.castore, 1) := by decide +kernel
theorem d3_327 : decode method_3_code 327 = .ok (.dup, 1) := by decide +kernel
theorem d3_328 : decode method_3_code 328 = .ok (.iconst 3, 1) := by decide +kernel
theorem d3_329 : decode method_3_code 329 = .ok (.aload_n 1, 1) := by decide +kernel
theorem d3_330 : decode method_3_code 330 = .ok (.iconst 3, 1) := by decide +kernel
theorem d3_331 : decode method_3_code 331 = .ok (.caload, 1) := by decide +kernel
theorem d3_332 : decode method_3_code 332 = .ok (.castore, 1) := by decide +kernel
theorem d3_333 : decode method_3_code 333 = .ok (.dup, 1) := by decide +kernel
theorem d3_334 : decode method_3_code 334 = .ok (.iconst 4, 1) := by decide +kernel
theorem d3_335 : decode method_3_code 335 = .ok (.aload_n 1, 1) := by decide +kernel
theorem d3_336 : decode method_3_code 336 = .ok (.iconst 4, 1) := by decide +kernel
theorem d3_337 : decode method_3_code 337 = .ok (.caload, 1) := by decide +kernel
theorem d3_338 : decode method_3_code 338 = .ok (.castore, 1) := by decide +kernel
theorem d3_339 : decode method_3_code 339 = .ok (.dup, 1) := by decide +kernel
theorem d3_340 : decode method_3_code 340 = .ok (.iconst 5, 1) := by decide +kernel
theorem d3_341 : decode method_3_code 341 = .ok (.aload_n 1, 1) := by decide +kernel
theorem d3_342 : decode method_3_code 342 = .ok (.iconst 5, 1) := by decide +kernel
theorem d3_343 : decode method_3_code 343 = .ok (.caload, 1) := by decide +kernel
theorem d3_344 : decode method_3_code 344 = .ok (.castore, 1) := by decide +kernel
theorem d3_345 : decode method_3_code 345 = .ok (.dup, 1) := by decide +kernel
theorem d3_346 : decode method_3_code 346 = .ok (.bipush 6, 2) := by decide +kernel
theorem d3_348 : decode method_3_code 348 = .ok (.aload_n 1, 1) := by decide +kernel
theorem d3_349 : decode method_3_code 349 = .ok (.bipush 6, 2) := by decide +kernel
theorem d3_351 : decode method_3_code 351 = .ok (.caload, 1) := by decide +kernel
theorem d3_352 : decode method_3_code 352 = .ok (.castore, 1) := by decide +kernel
theorem d3_353 : decode method_3_code 353 = .ok (.dup, 1) := by decide +kernel
theorem d3_354 : decode method_3_code 354 = .ok (.bipush 7, 2) := by decide +kernel
theorem d3_356 : decode method_3_code 356 = .ok (.aload_n 1, 1) := by decide +kernel
theorem d3_357 : decode method_3_code 357 = .ok (.bipush 7, 2) := by decide +kernel
theorem d3_359 : decode method_3_code 359 = .ok (.caload, 1) := by decide +kernel
theorem d3_360 : decode method_3_code 360 = .ok (.castore, 1) := by decide +kernel
theorem d3_361 : decode method_3_code 361 = .ok (.invokespecial 47, 3) := by decide +kernel
theorem d3_364 : decode method_3_code 364 = .ok (.areturn, 1) := by decide +kernel
theorem pn_1 : plainName "com/example/gentle_nudge/gentlenudge/server/AccountKindFromWireNamePinLaw" = true := by first | (simp [plainName, overriddenIn]; done) | decide +kernel
theorem ef_rmST (m : MethodId) (x0 : Int32) (x1 : Addr) : entryFrame m #[(.int x0), (.ref x1)] 2 = mkF m 0 #[.val (.int x0), .val (.ref x1)] [] := by first | (simp [entryFrame, mkF, argsToLocals, Value.category]; done) | rfl
set_option maxRecDepth 65536 in
set_option maxHeartbeats 40000000 in
theorem rmST (l : Launch) (Z : State) (a0 : Array Value) (hw : ∀ d ∈ tables_1, d.before a0 Z = true) (ws : List Jvm.Cond) (n : Int32) (b : Addr) (kc : ClassId) (x0 x1 x2 x3 x4 x5 x6 x7 : Int32) (G : Int32) (h0 : Heap) (n0 : Nat) (Z0 : n0 ≤ h0.size) (SC : Sta Z Z.heap "java/lang/String" "COMPACT_STRINGS" "Z" (.int G)) (hCS : ¬ G = 0) (O0 : Old Z n0 h0) (hn : own_N9 n) (Ab : Arv Z h0 b kc .char (8 : Int32) [(.int x0), (.int x1), (.int x2), (.int x3), (.int x4), (.int x5), (.int x6), (.int x7)] (.int (0 : Int32))) (hL0 : own_L x0) (hL1 : own_L x1) (hL2 : own_L x2) (hL3 : own_L x3) (hL4 : own_L x4) (hL5 : own_L x5) (hL6 : own_L x6) (hL7 : own_L x7) :
    MetFree l (⟨"com/example/gentle_nudge/gentlenudge/server/AccountKindFromWireNamePinLaw", "str", "(I[C)Ljava/lang/String;"⟩ : MethodName) (head1 (Jvm.Cond.code (⟨"com/example/gentle_nudge/gentlenudge/server/AccountKindFromWireNamePinLaw", "str", "(I[C)Ljava/lang/String;"⟩ : MethodName) method_3_code 2 (some (.object "java/lang/String")) :: ws) ({ frames := 4, cells := 6, slots := 20, locals := 66 } : Room)) (fun a_ U_ => a_ = #[(.int n), (.ref b)] ∧ Z.Warmed39 U_.vm ∧ U_.heap = h0 ∧ CHv Z consts_1 U_.vm h0) (fun _ _ _ _ _ => True) (fun _ U_ o_ U'_ => ∃ v_ L_, o_ = .returned v_ ∧ QM Z (own_str n [x0, x1, x2, x3, x4, x5, x6, x7]) h0 n0 v_ U'_.heap L_ ∧ CHr Z consts_1 U_.vm U_.heap U'_.vm U'_.heap ∧ ReturnedEndW U_ o_ U'_ L_ ({ frames := 4, cells := 6, slots := 20, locals := 66 } : Room).cells ({ frames := 4, cells := 6, slots := 20, locals := 66 } : Room).slots) := by
  refine MetFree.of_bodySF (plainFor_of_name pn_1) hisR ?_
  intro p e s m args below meth c s₁ Bd hml0 hP hK
  obtain ⟨rfl, hZ, hh, hC0⟩ := hP
  have hx := Bd.exec
  have hby := Bd.bytes
  have hml : c.maxLocals = 2 := hml0
  have hown : s.vm.findClass "com/example/gentle_nudge/gentlenudge/server/AccountKindFromWireNamePinLaw" = some m.cls := findClass_of_methodNamed Bd.named
  have hnm := (name_of_methodNamed Bd.named Bd.method).1
  have hlk := BodyLoose.notSynchronized Bd
  have X0 : Stand p l e ({ frames := 4, cells := 6, slots := 20, locals := 66 } : Room) (s.setVm s.vm) m #[(.int n), (.ref b)] below meth c s₁ [] 0 0 := Stand.of_body Bd
  have e0 : s₁.heap = h0 := by rw [← hh, Bd.state]; rfl
  have N0 := Fr.nil n0
  have hEL := own_EL hw
  have B0 : own_Bk Z consts_1 s h0 s.vm h0 := own_Bk.start hC0
  refine own_entry (P := own_EndS Z consts_1 s (QM Z (own_str n [x0, x1, x2, x3, x4, x5, x6, x7]) h0 n0) ({ frames := 4, cells := 6, slots := 20, locals := 66 } : Room).cells ({ frames := 4, cells := 6, slots := 20, locals := 66 } : Room).slots) (ef_rmST m n b) ?_
  show own_Go p e below _ s₁ (mkF m 0 #[.val (.int n), .val (.ref b)] [])
  rcases (hn : n = (0 : Int32) ∨ n = (1 : Int32) ∨ n = (2 : Int32) ∨ n = (3 : Int32) ∨ n = (4 : Int32) ∨ n = (5 : Int32) ∨ n = (6 : Int32) ∨ n = (7 : Int32) ∨ n = (8 : Int32)) with rfl | rfl | rfl | rfl | rfl | rfl | rfl | rfl | rfl
  · show own_Go p e below _ s₁ (mkF m 0 #[.val (.int (0 : Int32)), .val (.ref b)] [])
    refine own_st (fun t_ k_ => XS.iloadN X0.here hx rfl (hb hby d3_0) rfl k_) ?_
    show own_Go p e below _ s₁ (mkF m 1 #[.val (.int (0 : Int32)), .val (.ref b)] [(.int (0 : Int32))])
    refine own_st (fun t_ k_ => XS.ifNo X0.here hx rfl (hb hby d3_1) rfl (by decide) k_) ?_
    show own_Go p e below _ s₁ (mkF m 4 #[.val (.int (0 : Int32)), .val (.ref b)] [])
    obtain ⟨T1, h1, X1, e1, E1, A1, D1, cel1, st1⟩ := newO X0 hx hZ hown (hw _ (List.mem_of_getElem? (i := 7) rfl)) (hw _ (List.mem_of_getElem? (i := 8) rfl)) (hw _ (List.mem_of_getElem? (i := 9) rfl)) e0 (g := (mkF m 4 #[.val (.int (0 : Int32)), .val (.ref b)] [])) rfl (hb hby d3_4) (by decide) (by decide)
    obtain ⟨nb1, g1⟩ : ∃ z, z = h0.size := ⟨_, rfl⟩
    rw [← g1] at A1 D1 cel1 st1
    refine own_st st1 ?_
    have g_nb1 : n0 ≤ nb1 := Nat.le_trans (Nat.le_trans Z0 (Keep.refl h0 []).1) (Nat.le_of_eq g1.symm)
    have K1 : Keep h0 h1 [] := (Keep.refl h0 []).ext E1
    have sz_nb1 : h0.size ≤ nb1 := Nat.le_trans (Keep.refl h0 []).1 (Nat.le_of_eq g1.symm)
    have B1 := own_Bk.ext E1 B0
    have Sf1 := Safe.ext E1 (own_Bk.ch B0) (Safe.new (Nat.le_of_eq g1.symm))
    have F1_coder : Fld Z h1 nb1 "java/lang/String" "coder" "B" (.int (0 : Int32)) := D1 (Or.inr (hw _ (List.mem_of_getElem? (i := 33) rfl))) (ty := .byte) (by decide)
    have F1_value : Fld Z h1 nb1 "java/lang/String" "value" "[B" .null := D1 (Or.inr (hw _ (List.mem_of_getElem? (i := 35) rfl))) (ty := (.array .byte)) (by decide)
    show own_Go p e below _ T1 (mkF m 7 #[.val (.int (0 : Int32)), .val (.ref b)] [(.ref nb1)])
    refine own_st (fun t_ k_ => XS.dup X1.here hx rfl (hb hby d3_7) rfl rfl k_) ?_
    show own_Go p e below _ T1 (mkF m 8 #[.val (.int (0 : Int32)), .val (.ref b)] [(.ref nb1), (.ref nb1)])
    refine own_st (fun t_ k_ => XS.iconst X1.here hx rfl (hb hby d3_8) k_) ?_
    show own_Go p e below _ T1 (mkF m 9 #[.val (.int (0 : Int32)), .val (.ref b)] [(.int (0 : Int32)), (.ref nb1), (.ref nb1)])
    obtain ⟨T2, h2, k2, X2, e2, E2, A2, st2⟩ := newP X1 hx hZ (hw _ (List.mem_of_getElem? (i := 1) rfl)) e1 (g := (mkF m 9 #[.val (.int (0 : Int32)), .val (.ref b)] [(.int (0 : Int32)), (.ref nb1), (.ref nb1)])) rfl (hb hby d3_9) rfl (by decide) (cap := 0) (by decide) (by decide) (by decide) (by decide)
    obtain ⟨nb2, g2⟩ : ∃ z, z = h1.size := ⟨_, rfl⟩
    rw [← g2] at A2 st2
    refine own_st st2 ?_
    have g_nb2 : n0 ≤ nb2 := Nat.le_trans (Nat.le_trans Z0 K1.1) (Nat.le_of_eq g2.symm)
    have K2 : Keep h0 h2 [] := K1.ext E2
    have sz_nb2 : h0.size ≤ nb2 := Nat.le_trans K1.1 (Nat.le_of_eq g2.symm)
    have B2 := own_Bk.ext E2 B1
    have Sf2 := Safe.ext E2 (own_Bk.ch B1) (Safe.new (Nat.le_of_eq g2.symm))
    have V2 : Arv Z h2 nb2 k2 .char (0 : Int32) [] (.int (0 : Int32)) := (Arv.new A2 (by decide)).pad (pad_rep [] (.int (0 : Int32)) 0)
    show own_Go p e below _ T2 (mkF m 11 #[.val (.int (0 : Int32)), .val (.ref b)] [(.ref nb2), (.ref nb1), (.ref nb1)])
    have f4 := (Exa.ext E2 A1)
    have f5 := (Fld.ext E2 F1_value)
    have f6 := (Fld.ext E2 F1_coder)
    have f8 := (Safe.ext E2 (own_Bk.ch B1) Sf1)
    refine own_callNS X2 hx (y := (⟨"java/lang/String", "<init>", "([C)V"⟩ : MethodName)) rfl hown (mvT hZ (hw _ (List.mem_of_getElem? (i := 10) rfl))) (mvT hZ (hw _ (List.mem_of_getElem? (i := 11) rfl))) (mvT hZ (hw _ (List.mem_of_getElem? (i := 12) rfl))) (by decide) (backOfSH (W := 1) (rmE0 l Z a0 hw [] nb1 nb2 k2 h2 n0 (Nat.le_trans Z0 K2.1) g_nb1 f4 f5 f6 V2) hZ (hw _ (List.mem_of_getElem? (i := 12) rfl)) (hw _ (List.mem_of_getElem? (i := 9) rfl)) (by decide) (by decide) hEL (own_Bk.ch B2)) (a := nb1) (g := (mkF m 11 #[.val (.int (0 : Int32)), .val (.ref b)] [(.ref nb2), (.ref nb1), (.ref nb1)])) rfl (by rw [hml]; rfl) (argsL := [(.ref nb2)]) (rest := [(.ref nb1)]) (lenOf pd_1 rfl) rfl (by show 2 * 0 + _ ≤ _; exact Nat.le_of_eq rfl) (hb hby d3_11) rfl e2 (by decide) (by decide) hZ B2 ?_
    rintro v7 T7 L7 X7 ⟨rfl, Nq7, Kq7, Eq7, Cq7, t7, kb7, nt7, Vq7, Aq7⟩ CH7 B7 hZ hown
    have hZ : Z.Warmed39 (s.setVm T7.vm).vm := hZ
    have hown : (s.setVm T7.vm).vm.findClass "com/example/gentle_nudge/gentlenudge/server/AccountKindFromWireNamePinLaw" = some m.cls := hown
    have N7 := Fr.app N0 Nq7
    have K7 : Keep h0 T7.heap [] := K2.trans Kq7 (allS (Or.inr sz_nb1) all0)
    show own_Go p e below _ T7 (mkF m 14 #[.val (.int (0 : Int32)), .val (.ref b)] [(.ref nb1)])
    have hp7 := own_lnil
    have ecs : own_str (0 : Int32) [x0, x1, x2, x3, x4, x5, x6, x7] = ([] : List Int32) := rfl
    refine own_retAS X7 hx hlk hZ hEL rfl hh B7 Bd.returns rfl rfl (hb hby d3_14) ?_ (by decide) (by decide)
    show QM Z (own_str (0 : Int32) [x0, x1, x2, x3, x4, x5, x6, x7]) h0 n0 _ T7.heap _
    exact ⟨nb1, t7, kb7, rfl, N7, K7, sz_nb1, g_nb1, nt7, Eq7, Cq7, Vq7, by rw [ecs]; exact Aq7, by rw [ecs]; exact hp7⟩
  · show own_Go p e below _ s₁ (mkF m 0 #[.val (.int (1 : Int32)), .val (.ref b)] [])
    refine own_st (fun t_ k_ => XS.iloadN X0.here hx rfl (hb hby d3_0) rfl k_) ?_
    show own_Go p e below _ s₁ (mkF m 1 #[.val (.int (1 : Int32)), .val (.ref b)] [(.int (1 : Int32))])
    refine own_st (fun t_ k_ => XS.ifYes X0.here hx rfl (pc0 := 1) (pc' := 15) rfl (hb hby d3_1) rfl (by decide) (by decide) (by decide) k_) ?_
    show own_Go p e below _ s₁ (mkF m 15 #[.val (.int (1 : Int32)), .val (.ref b)] [])
    refine own_st (fun t_ k_ => XS.iloadN X0.here hx rfl (hb hby d3_15) rfl k_) ?_
    show own_Go p e below _ s₁ (mkF m 16 #[.val (.int (1 : Int32)), .val (.ref b)] [(.int (1 : Int32))])
    refine own_st (fun t_ k_ => XS.iconst X0.here hx rfl (hb hby d3_16) k_) ?_
    show own_Go p e below _ s₁ (mkF m 17 #[.val (.int (1 : Int32)), .val (.ref b)] [(.int (1 : Int32)), (.int (1 : Int32))])
    refine own_st (fun t_ k_ => XS.icmpNo X0.here hx rfl (hb hby d3_17) rfl (by decide) k_) ?_
    show own_Go p e below _ s₁ (mkF m 20 #[.val (.int (1 : Int32)), .val (.ref b)] [])
    obtain ⟨T1, h1, X1, e1, E1, A1, D1, cel1, st1⟩ := newO X0 hx hZ hown (hw _ (List.mem_of_getElem? (i := 7) rfl)) (hw _ (List.mem_of_getElem? (i := 8) rfl)) (hw _ (List.mem_of_getElem? (i := 9) rfl)) e0 (g := (mkF m 20 #[.val (.int (1 : Int32)), .val (.ref b)] [])) rfl (hb hby d3_20) (by decide) (by decide)
    obtain ⟨nb1, g1⟩ : ∃ z, z = h0.size := ⟨_, rfl⟩
    rw [← g1] at A1 D1 cel1 st1
    refine own_st st1 ?_
    have g_nb1 : n0 ≤ nb1 := Nat.le_trans (Nat.le_trans Z0 (Keep.refl h0 []).1) (Nat.le_of_eq g1.symm)
    have K1 : Keep h0 h1 [] := (Keep.refl h0 []).ext E1
    have sz_nb1 : h0.size ≤ nb1 := Nat.le_trans (Keep.refl h0 []).1 (Nat.le_of_eq g1.symm)
    have B1 := own_Bk.ext E1 B0
    have Sf1 := Safe.ext E1 (own_Bk.ch B0) (Safe.new (Nat.le_of_eq g1.symm))
    have F1_coder : Fld Z h1 nb1 "java/lang/String" "coder" "B" (.int (0 : Int32)) := D1 (Or.inr (hw _ (List.mem_of_getElem? (i := 33) rfl))) (ty := .byte) (by decide)
    have F1_value : Fld Z h1 nb1 "java/lang/String" "value" "[B" .null := D1 (Or.inr (hw _ (List.mem_of_getElem? (i := 35) rfl))) (ty := (.array .byte)) (by decide)
    show own_Go p e below _ T1 (mkF m 23 #[.val (.int (1 : Int32)), .val (.ref b)] [(.ref nb1)])
    refine own_st (fun t_ k_ => XS.dup X1.here hx rfl (hb hby d3_23) rfl rfl k_) ?_
    show own_Go p e below _ T1 (mkF m 24 #[.val (.int (1 : Int32)), .val (.ref b)] [(.ref nb1), (.ref nb1)])
    refine own_st (fun t_ k_ => XS.iconst X1.here hx rfl (hb hby d3_24) k_) ?_
    show own_Go p e below _ T1 (mkF m 25 #[.val (.int (1 : Int32)), .val (.ref b)] [(.int (1 : Int32)), (.ref nb1), (.ref nb1)])
    obtain ⟨T2, h2, k2, X2, e2, E2, A2, st2⟩ := newP X1 hx hZ (hw _ (List.mem_of_getElem? (i := 1) rfl)) e1 (g := (mkF m 25 #[.val (.int (1 : Int32)), .val (.ref b)] [(.int (1 : Int32)), (.ref nb1), (.ref nb1)])) rfl (hb hby d3_25) rfl (by decide) (cap := 1) (by decide) (by decide) (by decide) (by decide)
    obtain ⟨nb2, g2⟩ : ∃ z, z = h1.size := ⟨_, rfl⟩
    rw [← g2] at A2 st2
    refine own_st st2 ?_
    have g_nb2 : n0 ≤ nb2 := Nat.le_trans (Nat.le_trans Z0 K1.1) (Nat.le_of_eq g2.symm)
    have K2 : Keep h0 h2 [] := K1.ext E2
    have sz_nb2 : h0.size ≤ nb2 := Nat.le_trans K1.1 (Nat.le_of_eq g2.symm)
    have B2 := own_Bk.ext E2 B1
    have Sf2 := Safe.ext E2 (own_Bk.ch B1) (Safe.new (Nat.le_of_eq g2.symm))
    have V2 : Arv Z h2 nb2 k2 .char (1 : Int32) [(.int (0 : Int32))] (.int (0 : Int32)) := (Arv.new A2 (by decide)).pad (pad_rep [] (.int (0 : Int32)) 1)
    show own_Go p e below _ T2 (mkF m 27 #[.val (.int (1 : Int32)), .val (.ref b)] [(.ref nb2), (.ref nb1), (.ref nb1)])
    refine own_st (fun t_ k_ => XS.dup X2.here hx rfl (hb hby d3_27) rfl rfl k_) ?_
    show own_Go p e below _ T2 (mkF m 28 #[.val (.int (1 : Int32)), .val (.ref b)] [(.ref nb2), (.ref nb2), (.ref nb1), (.ref nb1)])
    refine own_st (fun t_ k_ => XS.iconst X2.here hx rfl (hb hby d3_28) k_) ?_
    show own_Go p e below _ T2 (mkF m 29 #[.val (.int (1 : Int32)), .val (.ref b)] [(.int (0 : Int32)), (.ref nb2), (.ref nb2), (.ref nb1), (.ref nb1)])
    refine own_st (fun t_ k_ => XS.aloadN X2.here hx rfl (hb hby d3_29) rfl rfl k_) ?_
    show own_Go p e below _ T2 (mkF m 30 #[.val (.int (1 : Int32)), .val (.ref b)] [(.ref b), (.int (0 : Int32)), (.ref nb2), (.ref nb2), (.ref nb1), (.ref nb1)])
    refine own_st (fun t_ k_ => XS.iconst X2.here hx rfl (hb hby d3_30) k_) ?_
    show own_Go p e below _ T2 (mkF m 31 #[.val (.int (1 : Int32)), .val (.ref b)] [(.int (0 : Int32)), (.ref b), (.int (0 : Int32)), (.ref nb2), (.ref nb2), (.ref nb1), (.ref nb1)])
    have f4 := (Ab.ext E1)
    have f5 := (f4.ext E2)
    obtain ⟨cl3, Ar3, q3, S3, N3', H3, G3⟩ := id f5
    have hin3 : ¬ ((0 : Int32) < 0 ∨ cl3.slots.size ≤ ((0 : Int32)).toNatClampNeg) := inb_of S3 ⟨by decide, by decide⟩
    refine own_st (fun t_ k_ => X2.caload hx (j := (0 : Int32)) (v := (.int x0)) (by rw [e2]; exact Ar3.1) (State.isArrayOf_alike hZ.alike Ar3.2.1) Ar3.2.2 hin3 (Has.at H3 hin3 rfl) (g := (mkF m 31 #[.val (.int (1 : Int32)), .val (.ref b)] [(.int (0 : Int32)), (.ref b), (.int (0 : Int32)), (.ref nb2), (.ref nb2), (.ref nb1), (.ref nb1)])) rfl rfl (hb hby d3_31) t_ k_) ?_
    show own_Go p e below _ T2 (mkF m 32 #[.val (.int (1 : Int32)), .val (.ref b)] [(.int x0), (.int (0 : Int32)), (.ref nb2), (.ref nb2), (.ref nb1), (.ref nb1)])
    obtain ⟨cl6, Ar6, q6, S6, N6', H6, G6⟩ := id V2
    have hin6 : ¬ ((0 : Int32) < 0 ∨ cl6.slots.size ≤ ((0 : Int32)).toNatClampNeg) := inb_of S6 ⟨by decide, by decide⟩
    obtain ⟨T6, h6, X6, e6, W6, st6⟩ := stC X2 hx hZ e2 Ar6 (j := (0 : Int32)) hin6 (g := (mkF m 32 #[.val (.int (1 : Int32)), .val (.ref b)] [(.int x0), (.int (0 : Int32)), (.ref nb2), (.ref nb2), (.ref nb1), (.ref nb1)])) rfl rfl (hb hby d3_32)
    have V6 : Arv Z h6 nb2 k2 .char (1 : Int32) [(.int (nar .char x0))] (.int (0 : Int32)) := Arv.set Ar6 q6 S6 N6' H6 G6 (fits_nar_char _) W6 0 rfl (Nat.le_of_ble_eq_true rfl)
    refine own_st st6 ?_
    have Sw6 := Sf2
    have B6 := own_Bk.wr W6 Sw6 B2
    have N6 := Fr.snoc X6 N0 g_nb2
    have K6 : Keep h0 h6 [] := K2.wr W6 (Or.inr sz_nb2)
    show own_Go p e below _ T6 (mkF m 33 #[.val (.int (1 : Int32)), .val (.ref b)] [(.ref nb2), (.ref nb1), (.ref nb1)])
    have hp7 : ∀ c ∈ ([(nar .char x0)] : List Int32), ¬ c < 0 ∧ ¬ (255 : Int32) < c := (own_lcons (own_LLN hL0) own_lnil)
    have f8 := (Exa.ext E2 A1)
    have f9 := (Exa.wr W6 f8)
    have f10 := (Fld.ext E2 F1_value)
    have ne11 : nb1 ≠ nb2 := (Nat.ne_of_lt (Nat.lt_of_lt_of_le A1.lt (Nat.le_of_eq g2.symm)))
    have f12 := (Fld.other W6 f10 (Or.inl ne11))
    have f13 := (Fld.ext E2 F1_coder)
    have f14 := (Fld.other W6 f13 (Or.inl ne11))
    have f15 := (O0.ext E1)
    have f16 := (f15.ext E2)
    have f17 := (f16.wr W6 g_nb2)
    refine own_callN X6 hx (y := (⟨"java/lang/String", "<init>", "([C)V"⟩ : MethodName)) rfl hown (mvT hZ (hw _ (List.mem_of_getElem? (i := 10) rfl))) (mvT hZ (hw _ (List.mem_of_getElem? (i := 11) rfl))) (mvT hZ (hw _ (List.mem_of_getElem? (i := 12) rfl))) (by decide) (StrChars.Road.backV (W := 1) hZ (own_words hw) (kI := 4) (hw _ (List.mem_of_getElem? (i := 8) rfl)) (cs := ([(nar .char x0)] : List Int32)) (bs := ([(nar .char x0)] : List Int32).map (fun c => c.toInt8.toInt32)) (n := 1) g_nb1 (Nat.le_trans Z0 K6.1) f9 f12 f14 V6 (Sta.ext f17.2 SC) hCS rfl rfl (by decide) (by decide) hp7 rfl (by decide) (by decide)) (a := nb1) (g := (mkF m 33 #[.val (.int (1 : Int32)), .val (.ref b)] [(.ref nb2), (.ref nb1), (.ref nb1)])) rfl (by rw [hml]; rfl) (argsL := [(.ref nb2)]) (rest := [(.ref nb1)]) (lenOf pd_1 rfl) rfl (by show 2 * 0 + _ ≤ _; exact Nat.le_of_eq rfl) (hb hby d3_33) rfl e6 (by decide) (by decide) ?_
    rintro v7 T7 L7 X7 ⟨rfl, Nq7, Kq7, Eq7, Cq7, t7, kb7, g_t7, gt7, nt7, Vq7, Aq7⟩
    have sz_t7 : h0.size ≤ t7 := Nat.le_trans K6.1 gt7
    have N7 := Fr.app N6 Nq7
    have K7 : Keep h0 T7.heap [] := K6.trans Kq7 (allS (Or.inr sz_nb1) all0)
    have f18 := (Safe.ext E2 (own_Bk.ch B1) Sf1)
    have f19 := (Safe.wr W6 Sw6 (own_Bk.ch B2) f18)
    have B7 := own_Bk.keep Kq7 (sfS f19 sf0) B6
    show own_Go p e below _ T7 (mkF m 36 #[.val (.int (1 : Int32)), .val (.ref b)] [(.ref nb1)])
    have ecs : own_str (1 : Int32) [x0, x1, x2, x3, x4, x5, x6, x7] = ([(nar .char x0)] : List Int32) := by simp [own_str, own_LN hL0, own_LN hL1, own_LN hL2, own_LN hL3, own_LN hL4, own_LN hL5, own_LN hL6, own_LN hL7]
    refine own_retAS X7 hx hlk hZ hEL rfl hh B7 Bd.returns rfl rfl (hb hby d3_36) ?_ (by decide) (by decide)
    show QM Z (own_str (1 : Int32) [x0, x1, x2, x3, x4, x5, x6, x7]) h0 n0 _ T7.heap _
    exact ⟨nb1, t7, kb7, rfl, N7, K7, sz_nb1, g_nb1, nt7, Eq7, Cq7, Vq7, by rw [ecs]; exact Aq7, by rw [ecs]; exact hp7⟩
  · show own_Go p e below _ s₁ (mkF m 0 #[.val (.int (2 : Int32)), .val (.ref b)] [])
    refine own_st (fun t_ k_ => XS.iloadN X0.here hx rfl (hb hby d3_0) rfl k_) ?_
    show own_Go p e below _ s₁ (mkF m 1 #[.val (.int (2 : Int32)), .val (.ref b)] [(.int (2 : Int32))])
    refine own_st (fun t_ k_ => XS.ifYes X0.here hx rfl (pc0 := 1) (pc' := 15) rfl (hb hby d3_1) rfl (by decide) (by decide) (by decide) k_) ?_
    show own_Go p e below _ s₁ (mkF m 15 #[.val (.int (2 : Int32)), .val (.ref b)] [])
    refine own_st (fun t_ k_ => XS.iloadN X0.here hx rfl (hb hby d3_15) rfl k_) ?_
    show own_Go p e below _ s₁ (mkF m 16 #[.val (.int (2 : Int32)), .val (.ref b)] [(.int (2 : Int32))])
    refine own_st (fun t_ k_ => XS.iconst X0.here hx rfl (hb hby d3_16) k_) ?_
    show own_Go p e below _ s₁ (mkF m 17 #[.val (.int (2 : Int32)), .val (.ref b)] [(.int (1 : Int32)), (.int (2 : Int32))])
    refine own_st (fun t_ k_ => XS.icmpYes X0.here hx rfl (pc0 := 17) (pc' := 37) rfl (hb hby d3_17) rfl (by decide) (by decide) (by decide) k_) ?_
    show own_Go p e below _ s₁ (mkF m 37 #[.val (.int (2 : Int32)), .val (.ref b)] [])
    refine own_st (fun t_ k_ => XS.iloadN X0.here hx rfl (hb hby d3_37) rfl k_) ?_
    show own_Go p e below _ s₁ (mkF m 38 #[.val (.int (2 : Int32)), .val (.ref b)] [(.int (2 : Int32))])
    refine own_st (fun t_ k_ => XS.iconst X0.here hx rfl (hb hby d3_38) k_) ?_
    show own_Go p e below _ s₁ (mkF m 39 #[.val (.int (2 : Int32)), .val (.ref b)] [(.int (2 : Int32)), (.int (2 : Int32))])
    refine own_st (fun t_ k_ => XS.icmpNo X0.here hx rfl (hb hby d3_39) rfl (by decide) k_) ?_
    show own_Go p e below _ s₁ (mkF m 42 #[.val (.int (2 : Int32)), .val (.ref b)] [])
    obtain ⟨T1, h1, X1, e1, E1, A1, D1, cel1, st1⟩ := newO X0 hx hZ hown (hw _ (List.mem_of_getElem? (i := 7) rfl)) (hw _ (List.mem_of_getElem? (i := 8) rfl)) (hw _ (List.mem_of_getElem? (i := 9) rfl)) e0 (g := (mkF m 42 #[.val (.int (2 : Int32)), .val (.ref b)] [])) rfl (hb hby d3_42) (by decide) (by decide)
    obtain ⟨nb1, g1⟩ : ∃ z, z = h0.size := ⟨_, rfl⟩
    rw [← g1] at A1 D1 cel1 st1
    refine own_st st1 ?_
    have g_nb1 : n0 ≤ nb1 := Nat.le_trans (Nat.le_trans Z0 (Keep.refl h0 []).1) (Nat.le_of_eq g1.symm)
    have K1 : Keep h0 h1 [] := (Keep.refl h0 []).ext E1
    have sz_nb1 : h0.size ≤ nb1 := Nat.le_trans (Keep.refl h0 []).1 (Nat.le_of_eq g1.symm)
    have B1 := own_Bk.ext E1 B0
    have Sf1 := Safe.ext E1 (own_Bk.ch B0) (Safe.new (Nat.le_of_eq g1.symm))
    have F1_coder : Fld Z h1 nb1 "java/lang/String" "coder" "B" (.int (0 : Int32)) := D1 (Or.inr (hw _ (List.mem_of_getElem? (i := 33) rfl))) (ty := .byte) (by decide)
    have F1_value : Fld Z h1 nb1 "java/lang/String" "value" "[B" .null := D1 (Or.inr (hw _ (List.mem_of_getElem? (i := 35) rfl))) (ty := (.array .byte)) (by decide)
    show own_Go p e below _ T1 (mkF m 45 #[.val (.int (2 : Int32)), .val (.ref b)] [(.ref nb1)])
    refine own_st (fun t_ k_ => XS.dup X1.here hx rfl (hb hby d3_45) rfl rfl k_) ?_
    show own_Go p e below _ T1 (mkF m 46 #[.val (.int (2 : Int32)), .val (.ref b)] [(.ref nb1), (.ref nb1)])
    refine own_st (fun t_ k_ => XS.iconst X1.here hx rfl (hb hby d3_46) k_) ?_
    show own_Go p e below _ T1 (mkF m 47 #[.val (.int (2 : Int32)), .val (.ref b)] [(.int (2 : Int32)), (.ref nb1), (.ref nb1)])
    obtain ⟨T2, h2, k2, X2, e2, E2, A2, st2⟩ := newP X1 hx hZ (hw _ (List.mem_of_getElem? (i := 1) rfl)) e1 (g := (mkF m 47 #[.val (.int (2 : Int32)), .val (.ref b)] [(.int (2 : Int32)), (.ref nb1), (.ref nb1)])) rfl (hb hby d3_47) rfl (by decide) (cap := 2) (by decide) (by decide) (by decide) (by decide)
    obtain ⟨nb2, g2⟩ : ∃ z, z = h1.size := ⟨_, rfl⟩
    rw [← g2] at A2 st2
    refine own_st st2 ?_
    have g_nb2 : n0 ≤ nb2 := Nat.le_trans (Nat.le_trans Z0 K1.1) (Nat.le_of_eq g2.symm)
    have K2 : Keep h0 h2 [] := K1.ext E2
    have sz_nb2 : h0.size ≤ nb2 := Nat.le_trans K1.1 (Nat.le_of_eq g2.symm)
    have B2 := own_Bk.ext E2 B1
    have Sf2 := Safe.ext E2 (own_Bk.ch B1) (Safe.new (Nat.le_of_eq g2.symm))
    have V2 : Arv Z h2 nb2 k2 .char (2 : Int32) [(.int (0 : Int32)), (.int (0 : Int32))] (.int (0 : Int32)) := (Arv.new A2 (by decide)).pad (pad_rep [] (.int (0 : Int32)) 2)
    show own_Go p e below _ T2 (mkF m 49 #[.val (.int (2 : Int32)), .val (.ref b)] [(.ref nb2), (.ref nb1), (.ref nb1)])
    refine own_st (fun t_ k_ => XS.dup X2.here hx rfl (hb hby d3_49) rfl rfl k_) ?_
    show own_Go p e below _ T2 (mkF m 50 #[.val (.int (2 : Int32)), .val (.ref b)] [(.ref nb2), (.ref nb2), (.ref nb1), (.ref nb1)])
    refine own_st (fun t_ k_ => XS.iconst X2.here hx rfl (hb hby d3_50) k_) ?_
    show own_Go p e below _ T2 (mkF m 51 #[.val (.int (2 : Int32)), .val (.ref b)] [(.int (0 : Int32)), (.ref nb2), (.ref nb2), (.ref nb1), (.ref nb1)])
    refine own_st (fun t_ k_ => XS.aloadN X2.here hx rfl (hb hby d3_51) rfl rfl k_) ?_
    show own_Go p e below _ T2 (mkF m 52 #[.val (.int (2 : Int32)), .val (.ref b)] [(.ref b), (.int (0 : Int32)), (.ref nb2), (.ref nb2), (.ref nb1), (.ref nb1)])
    refine own_st (fun t_ k_ => XS.iconst X2.here hx rfl (hb hby d3_52) k_) ?_
    show own_Go p e below _ T2 (mkF m 53 #[.val (.int (2 : Int32)), .val (.ref b)] [(.int (0 : Int32)), (.ref b), (.int (0 : Int32)), (.ref nb2), (.ref nb2), (.ref nb1), (.ref nb1)])
    have f4 := (Ab.ext E1)
    have f5 := (f4.ext E2)
    obtain ⟨cl3, Ar3, q3, S3, N3', H3, G3⟩ := id f5
    have hin3 : ¬ ((0 : Int32) < 0 ∨ cl3.slots.size ≤ ((0 : Int32)).toNatClampNeg) := inb_of S3 ⟨by decide, by decide⟩
    refine own_st (fun t_ k_ => X2.caload hx (j := (0 : Int32)) (v := (.int x0)) (by rw [e2]; exact Ar3.1) (State.isArrayOf_alike hZ.alike Ar3.2.1) Ar3.2.2 hin3 (Has.at H3 hin3 rfl) (g := (mkF m 53 #[.val (.int (2 : Int32)), .val (.ref b)] [(.int (0 : Int32)), (.ref b), (.int (0 : Int32)), (.ref nb2), (.ref nb2), (.ref nb1), (.ref nb1)])) rfl rfl (hb hby d3_53) t_ k_) ?_
    show own_Go p e below _ T2 (mkF m 54 #[.val (.int (2 : Int32)), .val (.ref b)] [(.int x0), (.int (0 : Int32)), (.ref nb2), (.ref nb2), (.ref nb1), (.ref nb1)])
    obtain ⟨cl6, Ar6, q6, S6, N6', H6, G6⟩ := id V2
    have hin6 : ¬ ((0 : Int32) < 0 ∨ cl6.slots.size ≤ ((0 : Int32)).toNatClampNeg) := inb_of S6 ⟨by decide, by decide⟩
    obtain ⟨T6, h6, X6, e6, W6, st6⟩ := stC X2 hx hZ e2 Ar6 (j := (0 : Int32)) hin6 (g := (mkF m 54 #[.val (.int (2 : Int32)), .val (.ref b)] [(.int x0), (.int (0 : Int32)), (.ref nb2), (.ref nb2), (.ref nb1), (.ref nb1)])) rfl rfl (hb hby d3_54)
    have V6 : Arv Z h6 nb2 k2 .char (2 : Int32) [(.int (nar .char x0)), (.int (0 : Int32))] (.int (0 : Int32)) := Arv.set Ar6 q6 S6 N6' H6 G6 (fits_nar_char _) W6 0 rfl (Nat.le_of_ble_eq_true rfl)
    refine own_st st6 ?_
    have Sw6 := Sf2
    have B6 := own_Bk.wr W6 Sw6 B2
    have N6 := Fr.snoc X6 N0 g_nb2
    have K6 : Keep h0 h6 [] := K2.wr W6 (Or.inr sz_nb2)
    show own_Go p e below _ T6 (mkF m 55 #[.val (.int (2 : Int32)), .val (.ref b)] [(.ref nb2), (.ref nb1), (.ref nb1)])
    refine own_st (fun t_ k_ => XS.dup X6.here hx rfl (hb hby d3_55) rfl rfl k_) ?_
    show own_Go p e below _ T6 (mkF m 56 #[.val (.int (2 : Int32)), .val (.ref b)] [(.ref nb2), (.ref nb2), (.ref nb1), (.ref nb1)])
    refine own_st (fun t_ k_ => XS.iconst X6.here hx rfl (hb hby d3_56) k_) ?_
    show own_Go p e below _ T6 (mkF m 57 #[.val (.int (2 : Int32)), .val (.ref b)] [(.int (1 : Int32)), (.ref nb2), (.ref nb2), (.ref nb1), (.ref nb1)])
    refine own_st (fun t_ k_ => XS.aloadN X6.here hx rfl (hb hby d3_57) rfl rfl k_) ?_
    show own_Go p e below _ T6 (mkF m 58 #[.val (.int (2 : Int32)), .val (.ref b)] [(.ref b), (.int (1 : Int32)), (.ref nb2), (.ref nb2), (.ref nb1), (.ref nb1)])
    refine own_st (fun t_ k_ => XS.iconst X6.here hx rfl (hb hby d3_58) k_) ?_
    show own_Go p e below _ T6 (mkF m 59 #[.val (.int (2 : Int32)), .val (.ref b)] [(.int (1 : Int32)), (.ref b), (.int (1 : Int32)), (.ref nb2), (.ref nb2), (.ref nb1), (.ref nb1)])
    have ne8 : b ≠ nb2 := (Nat.ne_of_lt (Nat.lt_of_lt_of_le f4.lt (Nat.le_of_eq g2.symm)))
    have f9 := (f5.other W6 ne8)
    obtain ⟨cl7, Ar7, q7, S7, N7', H7, G7⟩ := id f9
    have hin7 : ¬ ((1 : Int32) < 0 ∨ cl7.slots.size ≤ ((1 : Int32)).toNatClampNeg) := inb_of S7 ⟨by decide, by decide⟩
    refine own_st (fun t_ k_ => X6.caload hx (j := (1 : Int32)) (v := (.int x1)) (by rw [e6]; exact Ar7.1) (State.isArrayOf_alike hZ.alike Ar7.2.1) Ar7.2.2 hin7 (Has.at H7 hin7 rfl) (g := (mkF m 59 #[.val (.int (2 : Int32)), .val (.ref b)] [(.int (1 : Int32)), (.ref b), (.int (1 : Int32)), (.ref nb2), (.ref nb2), (.ref nb1), (.ref nb1)])) rfl rfl (hb hby d3_59) t_ k_) ?_
    show own_Go p e below _ T6 (mkF m 60 #[.val (.int (2 : Int32)), .val (.ref b)] [(.int x1), (.int (1 : Int32)), (.ref nb2), (.ref nb2), (.ref nb1), (.ref nb1)])
    obtain ⟨cl10, Ar10, q10, S10, N10', H10, G10⟩ := id V6
    have hin10 : ¬ ((1 : Int32) < 0 ∨ cl10.slots.size ≤ ((1 : Int32)).toNatClampNeg) := inb_of S10 ⟨by decide, by decide⟩
    obtain ⟨T10, h10, X10, e10, W10, st10⟩ := stC X6 hx hZ e6 Ar10 (j := (1 : Int32)) hin10 (g := (mkF m 60 #[.val (.int (2 : Int32)), .val (.ref b)] [(.int x1), (.int (1 : Int32)), (.ref nb2), (.ref nb2), (.ref nb1), (.ref nb1)])) rfl rfl (hb hby d3_60)
    have V10 : Arv Z h10 nb2 k2 .char (2 : Int32) [(.int (nar .char x0)), (.int (nar .char x1))] (.int (0 : Int32)) := Arv.set Ar10 q10 S10 N10' H10 G10 (fits_nar_char _) W10 1 rfl (Nat.le_of_ble_eq_true rfl)
    refine own_st st10 ?_
    have f11 := (Safe.wr W6 Sw6 (own_Bk.ch B2) Sf2)
    have Sw10 := f11
    have B10 := own_Bk.wr W10 Sw10 B6
    have N10 := Fr.snoc X10 N6 g_nb2
    have K10 : Keep h0 h10 [] := K6.wr W10 (Or.inr sz_nb2)
    show own_Go p e below _ T10 (mkF m 61 #[.val (.int (2 : Int32)), .val (.ref b)] [(.ref nb2), (.ref nb1), (.ref nb1)])
    have hp12 : ∀ c ∈ ([(nar .char x0), (nar .char x1)] : List Int32), ¬ c < 0 ∧ ¬ (255 : Int32) < c := (own_lcons (own_LLN hL0) (own_lcons (own_LLN hL1) own_lnil))
    have f13 := (Exa.ext E2 A1)
    have f14 := (Exa.wr W6 f13)
    have f15 := (Exa.wr W10 f14)
    have f16 := (Fld.ext E2 F1_value)
    have ne17 : nb1 ≠ nb2 := (Nat.ne_of_lt (Nat.lt_of_lt_of_le A1.lt (Nat.le_of_eq g2.symm)))
    have f18 := (Fld.other W6 f16 (Or.inl ne17))
    have f19 := (Fld.other W10 f18 (Or.inl ne17))
    have f20 := (Fld.ext E2 F1_coder)
    have f21 := (Fld.other W6 f20 (Or.inl ne17))
    have f22 := (Fld.other W10 f21 (Or.inl ne17))
    have f23 := (O0.ext E1)
    have f24 := (f23.ext E2)
    have f25 := (f24.wr W6 g_nb2)
    have f26 := (f25.wr W10 g_nb2)
    refine own_callN X10 hx (y := (⟨"java/lang/String", "<init>", "([C)V"⟩ : MethodName)) rfl hown (mvT hZ (hw _ (List.mem_of_getElem? (i := 10) rfl))) (mvT hZ (hw _ (List.mem_of_getElem? (i := 11) rfl))) (mvT hZ (hw _ (List.mem_of_getElem? (i := 12) rfl))) (by decide) (StrChars.Road.backV (W := 1) hZ (own_words hw) (kI := 4) (hw _ (List.mem_of_getElem? (i := 8) rfl)) (cs := ([(nar .char x0), (nar .char x1)] : List Int32)) (bs := ([(nar .char x0), (nar .char x1)] : List Int32).map (fun c => c.toInt8.toInt32)) (n := 2) g_nb1 (Nat.le_trans Z0 K10.1) f15 f19 f22 V10 (Sta.ext f26.2 SC) hCS rfl rfl (by decide) (by decide) hp12 rfl (by decide) (by decide)) (a := nb1) (g := (mkF m 61 #[.val (.int (2 : Int32)), .val (.ref b)] [(.ref nb2), (.ref nb1), (.ref nb1)])) rfl (by rw [hml]; rfl) (argsL := [(.ref nb2)]) (rest := [(.ref nb1)]) (lenOf pd_1 rfl) rfl (by show 2 * 0 + _ ≤ _; exact Nat.le_of_eq rfl) (hb hby d3_61) rfl e10 (by decide) (by decide) ?_
    rintro v12 T12 L12 X12 ⟨rfl, Nq12, Kq12, Eq12, Cq12, t12, kb12, g_t12, gt12, nt12, Vq12, Aq12⟩
    have sz_t12 : h0.size ≤ t12 := Nat.le_trans K10.1 gt12
    have N12 := Fr.app N10 Nq12
    have K12 : Keep h0 T12.heap [] := K10.trans Kq12 (allS (Or.inr sz_nb1) all0)
    have f27 := (Safe.ext E2 (own_Bk.ch B1) Sf1)
    have f28 := (Safe.wr W6 Sw6 (own_Bk.ch B2) f27)
    have f29 := (Safe.wr W10 Sw10 (own_Bk.ch B6) f28)
    have B12 := own_Bk.keep Kq12 (sfS f29 sf0) B10
    show own_Go p e below _ T12 (mkF m 64 #[.val (.int (2 : Int32)), .val (.ref b)] [(.ref nb1)])
    have ecs : own_str (2 : Int32) [x0, x1, x2, x3, x4, x5, x6, x7] = ([(nar .char x0), (nar .char x1)] : List Int32) := by simp [own_str, own_LN hL0, own_LN hL1, own_LN hL2, own_LN hL3, own_LN hL4, own_LN hL5, own_LN hL6, own_LN hL7]
    refine own_retAS X12 hx hlk hZ hEL rfl hh B12 Bd.returns rfl rfl (hb hby d3_64) ?_ (by decide) (by decide)
    show QM Z (own_str (2 : Int32) [x0, x1, x2, x3, x4, x5, x6, x7]) h0 n0 _ T12.heap _
    exact ⟨nb1, t12, kb12, rfl, N12, K12, sz_nb1, g_nb1, nt12, Eq12, Cq12, Vq12, by rw [ecs]; exact Aq12, by rw [ecs]; exact hp12⟩
  · show own_Go p e below _ s₁ (mkF m 0 #[.val (.int (3 : Int32)), .val (.ref b)] [])
    refine own_st (fun t_ k_ => XS.iloadN X0.here hx rfl (hb hby d3_0) rfl k_) ?_
    show own_Go p e below _ s₁ (mkF m 1 #[.val (.int (3 : Int32)), .val (.ref b)] [(.int (3 : Int32))])
    refine own_st (fun t_ k_ => XS.ifYes X0.here hx rfl (pc0 := 1) (pc' := 15) rfl (hb hby d3_1) rfl (by decide) (by decide) (by decide) k_) ?_
    show own_Go p e below _ s₁ (mkF m 15 #[.val (.int (3 : Int32)), .val (.ref b)] [])
    refine own_st (fun t_ k_ => XS.iloadN X0.here hx rfl (hb hby d3_15) rfl k_) ?_
    show own_Go p e below _ s₁ (mkF m 16 #[.val (.int (3 : Int32)), .val (.ref b)] [(.int (3 : Int32))])
    refine own_st (fun t_ k_ => XS.iconst X0.here hx rfl (hb hby d3_16) k_) ?_
    show own_Go p e below _ s₁ (mkF m 17 #[.val (.int (3 : Int32)), .val (.ref b)] [(.int (1 : Int32)), (.int (3 : Int32))])
    refine own_st (fun t_ k_ => XS.icmpYes X0.here hx rfl (pc0 := 17) (pc' := 37) rfl (hb hby d3_17) rfl (by decide) (by decide) (by decide) k_) ?_
    show own_Go p e below _ s₁ (mkF m 37 #[.val (.int (3 : Int32)), .val (.ref b)] [])
    refine own_st (fun t_ k_ => XS.iloadN X0.here hx rfl (hb hby d3_37) rfl k_) ?_
    show own_Go p e below _ s₁ (mkF m 38 #[.val (.int (3 : Int32)), .val (.ref b)] [(.int (3 : Int32))])
    refine own_st (fun t_ k_ => XS.iconst X0.here hx rfl (hb hby d3_38) k_) ?_
    show own_Go p e below _ s₁ (mkF m 39 #[.val (.int (3 : Int32)), .val (.ref b)] [(.int (2 : Int32)), (.int (3 : Int32))])
    refine own_st (fun t_ k_ => XS.icmpYes X0.here hx rfl (pc0 := 39) (pc' := 65) rfl (hb hby d3_39) rfl (by decide) (by decide) (by decide) k_) ?_
    show own_Go p e below _ s₁ (mkF m 65 #[.val (.int (3 : Int32)), .val (.ref b)] [])
    refine own_st (fun t_ k_ => XS.iloadN X0.here hx rfl (hb hby d3_65) rfl k_) ?_
    show own_Go p e below _ s₁ (mkF m 66 #[.val (.int (3 : Int32)), .val (.ref b)] [(.int (3 : Int32))])
    refine own_st (fun t_ k_ => XS.iconst X0.here hx rfl (hb hby d3_66) k_) ?_
    show own_Go p e below _ s₁ (mkF m 67 #[.val (.int (3 : Int32)), .val (.ref b)] [(.int (3 : Int32)), (.int (3 : Int32))])
    refine own_st (fun t_ k_ => XS.icmpNo X0.here hx rfl (hb hby d3_67) rfl (by decide) k_) ?_
    show own_Go p e below _ s₁ (mkF m 70 #[.val (.int (3 : Int32)), .val (.ref b)] [])
    obtain ⟨T1, h1, X1, e1, E1, A1, D1, cel1, st1⟩ := newO X0 hx hZ hown (hw _ (List.mem_of_getElem? (i := 7) rfl)) (hw _ (List.mem_of_getElem? (i := 8) rfl)) (hw _ (List.mem_of_getElem? (i := 9) rfl)) e0 (g := (mkF m 70 #[.val (.int (3 : Int32)), .val (.ref b)] [])) rfl (hb hby d3_70) (by decide) (by decide)
    obtain ⟨nb1, g1⟩ : ∃ z, z = h0.size := ⟨_, rfl⟩
    rw [← g1] at A1 D1 cel1 st1
    refine own_st st1 ?_
    have g_nb1 : n0 ≤ nb1 := Nat.le_trans (Nat.le_trans Z0 (Keep.refl h0 []).1) (Nat.le_of_eq g1.symm)
    have K1 : Keep h0 h1 [] := (Keep.refl h0 []).ext E1
    have sz_nb1 : h0.size ≤ nb1 := Nat.le_trans (Keep.refl h0 []).1 (Nat.le_of_eq g1.symm)
    have B1 := own_Bk.ext E1 B0
    have Sf1 := Safe.ext E1 (own_Bk.ch B0) (Safe.new (Nat.le_of_eq g1.symm))
    have F1_coder : Fld Z h1 nb1 "java/lang/String" "coder" "B" (.int (0 : Int32)) := D1 (Or.inr (hw _ (List.mem_of_getElem? (i := 33) rfl))) (ty := .byte) (by decide)
    have F1_value : Fld Z h1 nb1 "java/lang/String" "value" "[B" .null := D1 (Or.inr (hw _ (List.mem_of_getElem? (i := 35) rfl))) (ty := (.array .byte)) (by decide)
    show own_Go p e below _ T1 (mkF m 73 #[.val (.int (3 : Int32)), .val (.ref b)] [(.ref nb1)])
    refine own_st (fun t_ k_ => XS.dup X1.here hx rfl (hb hby d3_73) rfl rfl k_) ?_
    show own_Go p e below _ T1 (mkF m 74 #[.val (.int (3 : Int32)), .val (.ref b)] [(.ref nb1), (.ref nb1)])
    refine own_st (fun t_ k_ => XS.iconst X1.here hx rfl (hb hby d3_74) k_) ?_
    show own_Go p e below _ T1 (mkF m 75 #[.val (.int (3 : Int32)), .val (.ref b)] [(.int (3 : Int32)), (.ref nb1), (.ref nb1)])
    obtain ⟨T2, h2, k2, X2, e2, E2, A2, st2⟩ := newP X1 hx hZ (hw _ (List.mem_of_getElem? (i := 1) rfl)) e1 (g := (mkF m 75 #[.val (.int (3 : Int32)), .val (.ref b)] [(.int (3 : Int32)), (.ref nb1), (.ref nb1)])) rfl (hb hby d3_75) rfl (by decide) (cap := 3) (by decide) (by decide) (by decide) (by decide)
    obtain ⟨nb2, g2⟩ : ∃ z, z = h1.size := ⟨_, rfl⟩
    rw [← g2] at A2 st2
    refine own_st st2 ?_
    have g_nb2 : n0 ≤ nb2 := Nat.le_trans (Nat.le_trans Z0 K1.1) (Nat.le_of_eq g2.symm)
    have K2 : Keep h0 h2 [] := K1.ext E2
    have sz_nb2 : h0.size ≤ nb2 := Nat.le_trans K1.1 (Nat.le_of_eq g2.symm)
    have B2 := own_Bk.ext E2 B1
    have Sf2 := Safe.ext E2 (own_Bk.ch B1) (Safe.new (Nat.le_of_eq g2.symm))
    have V2 : Arv Z h2 nb2 k2 .char (3 : Int32) [(.int (0 : Int32)), (.int (0 : Int32)), (.int (0 : Int32))] (.int (0 : Int32)) := (Arv.new A2 (by decide)).pad (pad_rep [] (.int (0 : Int32)) 3)
    show own_Go p e below _ T2 (mkF m 77 #[.val (.int (3 : Int32)), .val (.ref b)] [(.ref nb2), (.ref nb1), (.ref nb1)])
    refine own_st (fun t_ k_ => XS.dup X2.here hx rfl (hb hby d3_77) rfl rfl k_) ?_
    show own_Go p e below _ T2 (mkF m 78 #[.val (.int (3 : Int32)), .val (.ref b)] [(.ref nb2), (.ref nb2), (.ref nb1), (.ref nb1)])
    refine own_st (fun t_ k_ => XS.iconst X2.here hx rfl (hb hby d3_78) k_) ?_
    show own_Go p e below _ T2 (mkF m 79 #[.val (.int (3 : Int32)), .val (.ref b)] [(.int (0 : Int32)), (.ref nb2), (.ref nb2), (.ref nb1), (.ref nb1)])
    refine own_st (fun t_ k_ => XS.aloadN X2.here hx rfl (hb hby d3_79) rfl rfl k_) ?_
    show own_Go p e below _ T2 (mkF m 80 #[.val (.int (3 : Int32)), .val (.ref b)] [(.ref b), (.int (0 : Int32)), (.ref nb2), (.ref nb2), (.ref nb1), (.ref nb1)])
    refine own_st (fun t_ k_ => XS.iconst X2.here hx rfl (hb hby d3_80) k_) ?_
    show own_Go p e below _ T2 (mkF m 81 #[.val (.int (3 : Int32)), .val (.ref b)] [(.int (0 : Int32)), (.ref b), (.int (0 : Int32)), (.ref nb2), (.ref nb2), (.ref nb1), (.ref nb1)])
    have f4 := (Ab.ext E1)
    have f5 := (f4.ext E2)
    obtain ⟨cl3, Ar3, q3, S3, N3', H3, G3⟩ := id f5
    have hin3 : ¬ ((0 : Int32) < 0 ∨ cl3.slots.size ≤ ((0 : Int32)).toNatClampNeg) := inb_of S3 ⟨by decide, by decide⟩
    refine own_st (fun t_ k_ => X2.caload hx (j := (0 : Int32)) (v := (.int x0)) (by rw [e2]; exact Ar3.1) (State.isArrayOf_alike hZ.alike Ar3.2.1) Ar3.2.2 hin3 (Has.at H3 hin3 rfl) (g := (mkF m 81 #[.val (.int (3 : Int32)), .val (.ref b)] [(.int (0 : Int32)), (.ref b), (.int (0 : Int32)), (.ref nb2), (.ref nb2), (.ref nb1), (.ref nb1)])) rfl rfl (hb hby d3_81) t_ k_) ?_
    show own_Go p e below _ T2 (mkF m 82 #[.val (.int (3 : Int32)), .val (.ref b)] [(.int x0), (.int (0 : Int32)), (.ref nb2), (.ref nb2), (.ref nb1), (.ref nb1)])
    obtain ⟨cl6, Ar6, q6, S6, N6', H6, G6⟩ := id V2
    have hin6 : ¬ ((0 : Int32) < 0 ∨ cl6.slots.size ≤ ((0 : Int32)).toNatClampNeg) := inb_of S6 ⟨by decide, by decide⟩
    obtain ⟨T6, h6, X6, e6, W6, st6⟩ := stC X2 hx hZ e2 Ar6 (j := (0 : Int32)) hin6 (g := (mkF m 82 #[.val (.int (3 : Int32)), .val (.ref b)] [(.int x0), (.int (0 : Int32)), (.ref nb2), (.ref nb2), (.ref nb1), (.ref nb1)])) rfl rfl (hb hby d3_82)
    have V6 : Arv Z h6 nb2 k2 .char (3 : Int32) [(.int (nar .char x0)), (.int (0 : Int32)), (.int (0 : Int32))] (.int (0 : Int32)) := Arv.set Ar6 q6 S6 N6' H6 G6 (fits_nar_char _) W6 0 rfl (Nat.le_of_ble_eq_true rfl)
    refine own_st st6 ?_
    have Sw6 := Sf2
    have B6 := own_Bk.wr W6 Sw6 B2
    have N6 := Fr.snoc X6 N0 g_nb2
    have K6 : Keep h0 h6 [] := K2.wr W6 (Or.inr sz_nb2)
    show own_Go p e below _ T6 (mkF m 83 #[.val (.int (3 : Int32)), .val (.ref b)] [(.ref nb2), (.ref nb1), (.ref nb1)])
    refine own_st (fun t_ k_ => XS.dup X6.here hx rfl (hb hby d3_83) rfl rfl k_) ?_
    show own_Go p e below _ T6 (mkF m 84 #[.val (.int (3 : Int32)), .val (.ref b)] [(.ref nb2), (.ref nb2), (.ref nb1), (.ref nb1)])
    refine own_st (fun t_ k_ => XS.iconst X6.here hx rfl (hb hby d3_84) k_) ?_
    show own_Go p e below _ T6 (mkF m 85 #[.val (.int (3 : Int32)), .val (.ref b)] [(.int (1 : Int32)), (.ref nb2), (.ref nb2), (.ref nb1), (.ref nb1)])
    refine own_st (fun t_ k_ => XS.aloadN X6.here hx rfl (hb hby d3_85) rfl rfl k_) ?_
    show own_Go p e below _ T6 (mkF m 86 #[.val (.int (3 : Int32)), .val (.ref b)] [(.ref b), (.int (1 : Int32)), (.ref nb2), (.ref nb2), (.ref nb1), (.ref nb1)])
    refine own_st (fun t_ k_ => XS.iconst X6.here hx rfl (hb hby d3_86) k_) ?_
    show own_Go p e below _ T6 (mkF m 87 #[.val (.int (3 : Int32)), .val (.ref b)] [(.int (1 : Int32)), (.ref b), (.int (1 : Int32)), (.ref nb2), (.ref nb2), (.ref nb1), (.ref nb1)])
    have ne8 : b ≠ nb2 := (Nat.ne_of_lt (Nat.lt_of_lt_of_le f4.lt (Nat.le_of_eq g2.symm)))
    have f9 := (f5.other W6 ne8)
    obtain ⟨cl7, Ar7, q7, S7, N7', H7, G7⟩ := id f9
    have hin7 : ¬ ((1 : Int32) < 0 ∨ cl7.slots.size ≤ ((1 : Int32)).toNatClampNeg) := inb_of S7 ⟨by decide, by decide⟩
    refine own_st (fun t_ k_ => X6.caload hx (j := (1 : Int32)) (v := (.int x1)) (by rw [e6]; exact Ar7.1) (State.isArrayOf_alike hZ.alike Ar7.2.1) Ar7.2.2 hin7 (Has.at H7 hin7 rfl) (g := (mkF m 87 #[.val (.int (3 : Int32)), .val (.ref b)] [(.int (1 : Int32)), (.ref b), (.int (1 : Int32)), (.ref nb2), (.ref nb2), (.ref nb1), (.ref nb1)])) rfl rfl (hb hby d3_87) t_ k_) ?_
    show own_Go p e below _ T6 (mkF m 88 #[.val (.int (3 : Int32)), .val (.ref b)] [(.int x1), (.int (1 : Int32)), (.ref nb2), (.ref nb2), (.ref nb1), (.ref nb1)])
    obtain ⟨cl10, Ar10, q10, S10, N10', H10, G10⟩ := id V6
    have hin10 : ¬ ((1 : Int32) < 0 ∨ cl10.slots.size ≤ ((1 : Int32)).toNatClampNeg) := inb_of S10 ⟨by decide, by decide⟩
    obtain ⟨T10, h10, X10, e10, W10, st10⟩ := stC X6 hx hZ e6 Ar10 (j := (1 : Int32)) hin10 (g := (mkF m 88 #[.val (.int (3 : Int32)), .val (.ref b)] [(.int x1), (.int (1 : Int32)), (.ref nb2), (.ref nb2), (.ref nb1), (.ref nb1)])) rfl rfl (hb hby d3_88)
    have V10 : Arv Z h10 nb2 k2 .char (3 : Int32) [(.int (nar .char x0)), (.int (nar .char x1)), (.int (0 : Int32))] (.int (0 : Int32)) := Arv.set Ar10 q10 S10 N10' H10 G10 (fits_nar_char _) W10 1 rfl (Nat.le_of_ble_eq_true rfl)
    refine own_st st10 ?_
    have f11 := (Safe.wr W6 Sw6 (own_Bk.ch B2) Sf2)
    have Sw10 := f11
    have B10 := own_Bk.wr W10 Sw10 B6
    have N10 := Fr.snoc X10 N6 g_nb2
    have K10 : Keep h0 h10 [] := K6.wr W10 (Or.inr sz_nb2)
    show own_Go p e below _ T10 (mkF m 89 #[.val (.int (3 : Int32)), .val (.ref b)] [(.ref nb2), (.ref nb1), (.ref nb1)])
    refine own_st (fun t_ k_ => XS.dup X10.here hx rfl (hb hby d3_89) rfl rfl k_) ?_
    show own_Go p e below _ T10 (mkF m 90 #[.val (.int (3 : Int32)), .val (.ref b)] [(.ref nb2), (.ref nb2), (.ref nb1), (.ref nb1)])
    refine own_st (fun t_ k_ => XS.iconst X10.here hx rfl (hb hby d3_90) k_) ?_
    show own_Go p e below _ T10 (mkF m 91 #[.val (.int (3 : Int32)), .val (.ref b)] [(.int (2 : Int32)), (.ref nb2), (.ref nb2), (.ref nb1), (.ref nb1)])
    refine own_st (fun t_ k_ => XS.aloadN X10.here hx rfl (hb hby d3_91) rfl rfl k_) ?_
    show own_Go p e below _ T10 (mkF m 92 #[.val (.int (3 : Int32)), .val (.ref b)] [(.ref b), (.int (2 : Int32)), (.ref nb2), (.ref nb2), (.ref nb1), (.ref nb1)])
    refine own_st (fun t_ k_ => XS.iconst X10.here hx rfl (hb hby d3_92) k_) ?_
    show own_Go p e below _ T10 (mkF m 93 #[.val (.int (3 : Int32)), .val (.ref b)] [(.int (2 : Int32)), (.ref b), (.int (2 : Int32)), (.ref nb2), (.ref nb2), (.ref nb1), (.ref nb1)])
    have f13 := (f5.other W6 ne8)
    have f14 := (f13.other W10 ne8)
    obtain ⟨cl12, Ar12, q12, S12, N12', H12, G12⟩ := id f14
    have hin12 : ¬ ((2 : Int32) < 0 ∨ cl12.slots.size ≤ ((2 : Int32)).toNatClampNeg) := inb_of S12 ⟨by decide, by decide⟩
    refine own_st (fun t_ k_ => X10.caload hx (j := (2 : Int32)) (v := (.int x2)) (by rw [e10]; exact Ar12.1) (State.isArrayOf_alike hZ.alike Ar12.2.1) Ar12.2.2 hin12 (Has.at H12 hin12 rfl) (g := (mkF m 93 #[.val (.int (3 : Int32)), .val (.ref b)] [(.int (2 : Int32)), (.ref b), (.int (2 : Int32)), (.ref nb2), (.ref nb2), (.ref nb1), (.ref nb1)])) rfl rfl (hb hby d3_93) t_ k_) ?_
    show own_Go p e below _ T10 (mkF m 94 #[.val (.int (3 : Int32)), .val (.ref b)] [(.int x2), (.int (2 : Int32)), (.ref nb2), (.ref nb2), (.ref nb1), (.ref nb1)])
    obtain ⟨cl15, Ar15, q15, S15, N15', H15, G15⟩ := id V10
    have hin15 : ¬ ((2 : Int32) < 0 ∨ cl15.slots.size ≤ ((2 : Int32)).toNatClampNeg) := inb_of S15 ⟨by decide, by decide⟩
    obtain ⟨T15, h15, X15, e15, W15, st15⟩ := stC X10 hx hZ e10 Ar15 (j := (2 : Int32)) hin15 (g := (mkF m 94 #[.val (.int (3 : Int32)), .val (.ref b)] [(.int x2), (.int (2 : Int32)), (.ref nb2), (.ref nb2), (.ref nb1), (.ref nb1)])) rfl rfl (hb hby d3_94)
    have V15 : Arv Z h15 nb2 k2 .char (3 : Int32) [(.int (nar .char x0)), (.int (nar .char x1)), (.int (nar .char x2))] (.int (0 : Int32)) := Arv.set Ar15 q15 S15 N15' H15 G15 (fits_nar_char _) W15 2 rfl (Nat.le_of_ble_eq_true rfl)
    refine own_st st15 ?_
    have f16 := (Safe.wr W10 Sw10 (own_Bk.ch B6) f11)
    have Sw15 := f16
    have B15 := own_Bk.wr W15 Sw15 B10
    have N15 := Fr.snoc X15 N10 g_nb2
    have K15 : Keep h0 h15 [] := K10.wr W15 (Or.inr sz_nb2)
    show own_Go p e below _ T15 (mkF m 95 #[.val (.int (3 : Int32)), .val (.ref b)] [(.ref nb2), (.ref nb1), (.ref nb1)])
    have hp17 : ∀ c ∈ ([(nar .char x0), (nar .char x1), (nar .char x2)] : List Int32), ¬ c < 0 ∧ ¬ (255 : Int32) < c := (own_lcons (own_LLN hL0) (own_lcons (own_LLN hL1) (own_lcons (own_LLN hL2) own_lnil)))
    have f18 := (Exa.ext E2 A1)
    have f19 := (Exa.wr W6 f18)
    have f20 := (Exa.wr W10 f19)
    have f21 := (Exa.wr W15 f20)
    have f22 := (Fld.ext E2 F1_value)
    have ne23 : nb1 ≠ nb2 := (Nat.ne_of_lt (Nat.lt_of_lt_of_le A1.lt (Nat.le_of_eq g2.symm)))
    have f24 := (Fld.other W6 f22 (Or.inl ne23))
    have f25 := (Fld.other W10 f24 (Or.inl ne23))
    have f26 := (Fld.other W15 f25 (Or.inl ne23))
    have f27 := (Fld.ext E2 F1_coder)
    have f28 := (Fld.other W6 f27 (Or.inl ne23))
    have f29 := (Fld.other W10 f28 (Or.inl ne23))
    have f30 := (Fld.other W15 f29 (Or.inl ne23))
    have f31 := (O0.ext E1)
    have f32 := (f31.ext E2)
    have f33 := (f32.wr W6 g_nb2)
    have f34 := (f33.wr W10 g_nb2)
    have f35 := (f34.wr W15 g_nb2)
    refine own_callN X15 hx (y := (⟨"java/lang/String", "<init>", "([C)V"⟩ : MethodName)) rfl hown (mvT hZ (hw _ (List.mem_of_getElem? (i := 10) rfl))) (mvT hZ (hw _ (List.mem_of_getElem? (i := 11) rfl))) (mvT hZ (hw _ (List.mem_of_getElem? (i := 12) rfl))) (by decide) (StrChars.Road.backV (W := 1) hZ (own_words hw) (kI := 4) (hw _ (List.mem_of_getElem? (i := 8) rfl)) (cs := ([(nar .char x0), (nar .char x1), (nar .char x2)] : List Int32)) (bs := ([(nar .char x0), (nar .char x1), (nar .char x2)] : List Int32).map (fun c => c.toInt8.toInt32)) (n := 3) g_nb1 (Nat.le_trans Z0 K15.1) f21 f26 f30 V15 (Sta.ext f35.2 SC) hCS rfl rfl (by decide) (by decide) hp17 rfl (by decide) (by decide)) (a := nb1) (g := (mkF m 95 #[.val (.int (3 : Int32)), .val (.ref b)] [(.ref nb2), (.ref nb1), (.ref nb1)])) rfl (by rw [hml]; rfl) (argsL := [(.ref nb2)]) (rest := [(.ref nb1)]) (lenOf pd_1 rfl) rfl (by show 2 * 0 + _ ≤ _; exact Nat.le_of_eq rfl) (hb hby d3_95) rfl e15 (by decide) (by decide) ?_
    rintro v17 T17 L17 X17 ⟨rfl, Nq17, Kq17, Eq17, Cq17, t17, kb17, g_t17, gt17, nt17, Vq17, Aq17⟩
    have sz_t17 : h0.size ≤ t17 := Nat.le_trans K15.1 gt17
    have N17 := Fr.app N15 Nq17
    have K17 : Keep h0 T17.heap [] := K15.trans Kq17 (allS (Or.inr sz_nb1) all0)
    have f36 := (Safe.ext E2 (own_Bk.ch B1) Sf1)
    have f37 := (Safe.wr W6 Sw6 (own_Bk.ch B2) f36)
    have f38 := (Safe.wr W10 Sw10 (own_Bk.ch B6) f37)
    have f39 := (Safe.wr W15 Sw15 (own_Bk.ch B10) f38)
    have B17 := own_Bk.keep Kq17 (sfS f39 sf0) B15
    show own_Go p e below _ T17 (mkF m 98 #[.val (.int (3 : Int32)), .val (.ref b)] [(.ref nb1)])
    have ecs : own_str (3 : Int32) [x0, x1, x2, x3, x4, x5, x6, x7] = ([(nar .char x0), (nar .char x1), (nar .char x2)] : List Int32) := by simp [own_str, own_LN hL0, own_LN hL1, own_LN hL2, own_LN hL3, own_LN hL4, own_LN hL5, own_LN hL6, own_LN hL7]
    refine own_retAS X17 hx hlk hZ hEL rfl hh B17 Bd.returns rfl rfl (hb hby d3_98) ?_ (by decide) (by decide)
    show QM Z (own_str (3 : Int32) [x0, x1, x2, x3, x4, x5, x6, x7]) h0 n0 _ T17.heap _
    exact ⟨nb1, t17, kb17, rfl, N17, K17, sz_nb1, g_nb1, nt17, Eq17, Cq17, Vq17, by rw [ecs]; exact Aq17, by rw [ecs]; exact hp17⟩
  · show own_Go p e below _ s₁ (mkF m 0 #[.val (.int (4 : Int32)), .val (.ref b)] [])
    refine own_st (fun t_ k_ => XS.iloadN X0.here hx rfl (hb hby d3_0) rfl k_) ?_
    show own_Go p e below _ s₁ (mkF m 1 #[.val (.int (4 : Int32)), .val (.ref b)] [(.int (4 : Int32))])
    refine own_st (fun t_ k_ => XS.ifYes X0.here hx rfl (pc0 := 1) (pc' := 15) rfl (hb hby d3_1) rfl (by decide) (by decide) (by decide) k_) ?_
    show own_Go p e below _ s₁ (mkF m 15 #[.val (.int (4 : Int32)), .val (.ref b)] [])
    refine own_st (fun t_ k_ => XS.iloadN X0.here hx rfl (hb hby d3_15) rfl k_) ?_
    show own_Go p e below _ s₁ (mkF m 16 #[.val (.int (4 : Int32)), .val (.ref b)] [(.int (4 : Int32))])
    refine own_st (fun t_ k_ => XS.iconst X0.here hx rfl (hb hby d3_16) k_) ?_
    show own_Go p e below _ s₁ (mkF m 17 #[.val (.int (4 : Int32)), .val (.ref b)] [(.int (1 : Int32)), (.int (4 : Int32))])
    refine own_st (fun t_ k_ => XS.icmpYes X0.here hx rfl (pc0 := 17) (pc' := 37) rfl (hb hby d3_17) rfl (by decide) (by decide) (by decide) k_) ?_
    show own_Go p e below _ s₁ (mkF m 37 #[.val (.int (4 : Int32)), .val (.ref b)] [])
    refine own_st (fun t_ k_ => XS.iloadN X0.here hx rfl (hb hby d3_37) rfl k_) ?_
    show own_Go p e below _ s₁ (mkF m 38 #[.val (.int (4 : Int32)), .val (.ref b)] [(.int (4 : Int32))])
    refine own_st (fun t_ k_ => XS.iconst X0.here hx rfl (hb hby d3_38) k_) ?_
    show own_Go p e below _ s₁ (mkF m 39 #[.val (.int (4 : Int32)), .val (.ref b)] [(.int (2 : Int32)), (.int (4 : Int32))])
    refine own_st (fun t_ k_ => XS.icmpYes X0.here hx rfl (pc0 := 39) (pc' := 65) rfl (hb hby d3_39) rfl (by decide) (by decide) (by decide) k_) ?_
    show own_Go p e below _ s₁ (mkF m 65 #[.val (.int (4 : Int32)), .val (.ref b)] [])
    refine own_st (fun t_ k_ => XS.iloadN X0.here hx rfl (hb hby d3_65) rfl k_) ?_
    show own_Go p e below _ s₁ (mkF m 66 #[.val (.int (4 : Int32)), .val (.ref b)] [(.int (4 : Int32))])
    refine own_st (fun t_ k_ => XS.iconst X0.here hx rfl (hb hby d3_66) k_) ?_
    show own_Go p e below _ s₁ (mkF m 67 #[.val (.int (4 : Int32)), .val (.ref b)] [(.int (3 : Int32)), (.int (4 : Int32))])
    refine own_st (fun t_ k_ => XS.icmpYes X0.here hx rfl (pc0 := 67) (pc' := 99) rfl (hb hby d3_67) rfl (by decide) (by decide) (by decide) k_) ?_
    show own_Go p e below _ s₁ (mkF m 99 #[.val (.int (4 : Int32)), .val (.ref b)] [])
    refine own_st (fun t_ k_ => XS.iloadN X0.here hx rfl (hb hby d3_99) rfl k_) ?_
    show own_Go p e below _ s₁ (mkF m 100 #[.val (.int (4 : Int32)), .val (.ref b)] [(.int (4 : Int32))])
    refine own_st (fun t_ k_ => XS.iconst X0.here hx rfl (hb hby d3_100) k_) ?_
    show own_Go p e below _ s₁ (mkF m 101 #[.val (.int (4 : Int32)), .val (.ref b)] [(.int (4 : Int32)), (.int (4 : Int32))])
    refine own_st (fun t_ k_ => XS.icmpNo X0.here hx rfl (hb hby d3_101) rfl (by decide) k_) ?_
    show own_Go p e below _ s₁ (mkF m 104 #[.val (.int (4 : Int32)), .val (.ref b)] [])
    obtain ⟨T1, h1, X1, e1, E1, A1, D1, cel1, st1⟩ := newO X0 hx hZ hown (hw _ (List.mem_of_getElem? (i := 7) rfl)) (hw _ (List.mem_of_getElem? (i := 8) rfl)) (hw _ (List.mem_of_getElem? (i := 9) rfl)) e0 (g := (mkF m 104 #[.val (.int (4 : Int32)), .val (.ref b)] [])) rfl (hb hby d3_104) (by decide) (by decide)
    obtain ⟨nb1, g1⟩ : ∃ z, z = h0.size := ⟨_, rfl⟩
    rw [← g1] at A1 D1 cel1 st1
    refine own_st st1 ?_
    have g_nb1 : n0 ≤ nb1 := Nat.le_trans (Nat.le_trans Z0 (Keep.refl h0 []).1) (Nat.le_of_eq g1.symm)
    have K1 : Keep h0 h1 [] := (Keep.refl h0 []).ext E1
    have sz_nb1 : h0.size ≤ nb1 := Nat.le_trans (Keep.refl h0 []).1 (Nat.le_of_eq g1.symm)
    have B1 := own_Bk.ext E1 B0
    have Sf1 := Safe.ext E1 (own_Bk.ch B0) (Safe.new (Nat.le_of_eq g1.symm))
    have F1_coder : Fld Z h1 nb1 "java/lang/String" "coder" "B" (.int (0 : Int32)) := D1 (Or.inr (hw _ (List.mem_of_getElem? (i := 33) rfl))) (ty := .byte) (by decide)
    have F1_value : Fld Z h1 nb1 "java/lang/String" "value" "[B" .null := D1 (Or.inr (hw _ (List.mem_of_getElem? (i := 35) rfl))) (ty := (.array .byte)) (by decide)
    show own_Go p e below _ T1 (mkF m 107 #[.val (.int (4 : Int32)), .val (.ref b)] [(.ref nb1)])
    refine own_st (fun t_ k_ => XS.dup X1.here hx rfl (hb hby d3_107) rfl rfl k_) ?_
    show own_Go p e below _ T1 (mkF m 108 #[.val (.int (4 : Int32)), .val (.ref b)] [(.ref nb1), (.ref nb1)])
    refine own_st (fun t_ k_ => XS.iconst X1.here hx rfl (hb hby d3_108) k_) ?_
    show own_Go p e below _ T1 (mkF m 109 #[.val (.int (4 : Int32)), .val (.ref b)] [(.int (4 : Int32)), (.ref nb1), (.ref nb1)])
    obtain ⟨T2, h2, k2, X2, e2, E2, A2, st2⟩ := newP X1 hx hZ (hw _ (List.mem_of_getElem? (i := 1) rfl)) e1 (g := (mkF m 109 #[.val (.int (4 : Int32)), .val (.ref b)] [(.int (4 : Int32)), (.ref nb1), (.ref nb1)])) rfl (hb hby d3_109) rfl (by decide) (cap := 4) (by decide) (by decide) (by decide) (by decide)
    obtain ⟨nb2, g2⟩ : ∃ z, z = h1.size := ⟨_, rfl⟩
    rw [← g2] at A2 st2
    refine own_st st2 ?_
    have g_nb2 : n0 ≤ nb2 := Nat.le_trans (Nat.le_trans Z0 K1.1) (Nat.le_of_eq g2.symm)
    have K2 : Keep h0 h2 [] := K1.ext E2
    have sz_nb2 : h0.size ≤ nb2 := Nat.le_trans K1.1 (Nat.le_of_eq g2.symm)
    have B2 := own_Bk.ext E2 B1
    have Sf2 := Safe.ext E2 (own_Bk.ch B1) (Safe.new (Nat.le_of_eq g2.symm))
    have V2 : Arv Z h2 nb2 k2 .char (4 : Int32) [(.int (0 : Int32)), (.int (0 : Int32)), (.int (0 : Int32)), (.int (0 : Int32))] (.int (0 : Int32)) := (Arv.new A2 (by decide)).pad (pad_rep [] (.int (0 : Int32)) 4)
    show own_Go p e below _ T2 (mkF m 111 #[.val (.int (4 : Int32)), .val (.ref b)] [(.ref nb2), (.ref nb1), (.ref nb1)])
    refine own_st (fun t_ k_ => XS.dup X2.here hx rfl (hb hby d3_111) rfl rfl k_) ?_
    show own_Go p e below _ T2 (mkF m 112 #[.val (.int (4 : Int32)), .val (.ref b)] [(.ref nb2), (.ref nb2), (.ref nb1), (.ref nb1)])
    refine own_st (fun t_ k_ => XS.iconst X2.here hx rfl (hb hby d3_112) k_) ?_
    show own_Go p e below _ T2 (mkF m 113 #[.val (.int (4 : Int32)), .val (.ref b)] [(.int (0 : Int32)), (.ref nb2), (.ref nb2), (.ref nb1), (.ref nb1)])
    refine own_st (fun t_ k_ => XS.aloadN X2.here hx rfl (hb hby d3_113) rfl rfl k_) ?_
    show own_Go p e below _ T2 (mkF m 114 #[.val (.int (4 : Int32)), .val (.ref b)] [(.ref b), (.int (0 : Int32)), (.ref nb2), (.ref nb2), (.ref nb1), (.ref nb1)])
    refine own_st (fun t_ k_ => XS.iconst X2.here hx rfl (hb hby d3_114) k_) ?_
    show own_Go p e below _ T2 (mkF m 115 #[.val (.int (4 : Int32)), .val (.ref b)] [(.int (0 : Int32)), (.ref b), (.int (0 : Int32)), (.ref nb2), (.ref nb2), (.ref nb1), (.ref nb1)])
    have f4 := (Ab.ext E1)
    have f5 := (f4.ext E2)
    obtain ⟨cl3, Ar3, q3, S3, N3', H3, G3⟩ := id f5
    have hin3 : ¬ ((0 : Int32) < 0 ∨ cl3.slots.size ≤ ((0 : Int32)).toNatClampNeg) := inb_of S3 ⟨by decide, by decide⟩
    refine own_st (fun t_ k_ => X2.caload hx (j := (0 : Int32)) (v := (.int x0)) (by rw [e2]; exact Ar3.1) (State.isArrayOf_alike hZ.alike Ar3.2.1) Ar3.2.2 hin3 (Has.at H3 hin3 rfl) (g := (mkF m 115 #[.val (.int (4 : Int32)), .val (.ref b)] [(.int (0 : Int32)), (.ref b), (.int (0 : Int32)), (.ref nb2), (.ref nb2), (.ref nb1), (.ref nb1)])) rfl rfl (hb hby d3_115) t_ k_) ?_
    show own_Go p e below _ T2 (mkF m 116 #[.val (.int (4 : Int32)), .val (.ref b)] [(.int x0), (.int (0 : Int32)), (.ref nb2), (.ref nb2), (.ref nb1), (.ref nb1)])
    obtain ⟨cl6, Ar6, q6, S6, N6', H6, G6⟩ := id V2
    have hin6 : ¬ ((0 : Int32) < 0 ∨ cl6.slots.size ≤ ((0 : Int32)).toNatClampNeg) := inb_of S6 ⟨by decide, by decide⟩
    obtain ⟨T6, h6, X6, e6, W6, st6⟩ := stC X2 hx hZ e2 Ar6 (j := (0 : Int32)) hin6 (g := (mkF m 116 #[.val (.int (4 : Int32)), .val (.ref b)] [(.int x0), (.int (0 : Int32)), (.ref nb2), (.ref nb2), (.ref nb1), (.ref nb1)])) rfl rfl (hb hby d3_116)
    have V6 : Arv Z h6 nb2 k2 .char (4 : Int32) [(.int (nar .char x0)), (.int (0 : Int32)), (.int (0 : Int32)), (.int (0 : Int32))] (.int (0 : Int32)) := Arv.set Ar6 q6 S6 N6' H6 G6 (fits_nar_char _) W6 0 rfl (Nat.le_of_ble_eq_true rfl)
    refine own_st st6 ?_
    have Sw6 := Sf2
    have B6 := own_Bk.wr W6 Sw6 B2
    have N6 := Fr.snoc X6 N0 g_nb2
    have K6 : Keep h0 h6 [] := K2.wr W6 (Or.inr sz_nb2)
    show own_Go p e below _ T6 (mkF m 117 #[.val (.int (4 : Int32)), .val (.ref b)] [(.ref nb2), (.ref nb1), (.ref nb1)])
    refine own_st (fun t_ k_ => XS.dup X6.here hx rfl (hb hby d3_117) rfl rfl k_) ?_
    show own_Go p e below _ T6 (mkF m 118 #[.val (.int (4 : Int32)), .val (.ref b)] [(.ref nb2), (.ref nb2), (.ref nb1), (.ref nb1)])
    refine own_st (fun t_ k_ => XS.iconst X6.here hx rfl (hb hby d3_118) k_) ?_
    show own_Go p e below _ T6 (mkF m 119 #[.val (.int (4 : Int32)), .val (.ref b)] [(.int (1 : Int32)), (.ref nb2), (.ref nb2), (.ref nb1), (.ref nb1)])
    refine own_st (fun t_ k_ => XS.aloadN X6.here hx rfl (hb hby d3_119) rfl rfl k_) ?_
    show own_Go p e below _ T6 (mkF m 120 #[.val (.int (4 : Int32)), .val (.ref b)] [(.ref b), (.int (1 : Int32)), (.ref nb2), (.ref nb2), (.ref nb1), (.ref nb1)])
    refine own_st (fun t_ k_ => XS.iconst X6.here hx rfl (hb hby d3_120) k_) ?_
    show own_Go p e below _ T6 (mkF m 121 #[.val (.int (4 : Int32)), .val (.ref b)] [(.int (1 : Int32)), (.ref b), (.int (1 : Int32)), (.ref nb2), (.ref nb2), (.ref nb1), (.ref nb1)])
    have ne8 : b ≠ nb2 := (Nat.ne_of_lt (Nat.lt_of_lt_of_le f4.lt (Nat.le_of_eq g2.symm)))
    have f9 := (f5.other W6 ne8)
    obtain ⟨cl7, Ar7, q7, S7, N7', H7, G7⟩ := id f9
    have hin7 : ¬ ((1 : Int32) < 0 ∨ cl7.slots.size ≤ ((1 : Int32)).toNatClampNeg) := inb_of S7 ⟨by decide, by decide⟩
    refine own_st (fun t_ k_ => X6.caload hx (j := (1 : Int32)) (v := (.int x1)) (by rw [e6]; exact Ar7.1) (State.isArrayOf_alike hZ.alike Ar7.2.1) Ar7.2.2 hin7 (Has.at H7 hin7 rfl) (g := (mkF m 121 #[.val (.int (4 : Int32)), .val (.ref b)] [(.int (1 : Int32)), (.ref b), (.int (1 : Int32)), (.ref nb2), (.ref nb2), (.ref nb1), (.ref nb1)])) rfl rfl (hb hby d3_121) t_ k_) ?_
    show own_Go p e below _ T6 (mkF m 122 #[.val (.int (4 : Int32)), .val (.ref b)] [(.int x1), (.int (1 : Int32)), (.ref nb2), (.ref nb2), (.ref nb1), (.ref nb1)])
    obtain ⟨cl10, Ar10, q10, S10, N10', H10, G10⟩ := id V6
    have hin10 : ¬ ((1 : Int32) < 0 ∨ cl10.slots.size ≤ ((1 : Int32)).toNatClampNeg) := inb_of S10 ⟨by decide, by decide⟩
    obtain ⟨T10, h10, X10, e10, W10, st10⟩ := stC X6 hx hZ e6 Ar10 (j := (1 : Int32)) hin10 (g := (mkF m 122 #[.val (.int (4 : Int32)), .val (.ref b)] [(.int x1), (.int (1 : Int32)), (.ref nb2), (.ref nb2), (.ref nb1), (.ref nb1)])) rfl rfl (hb hby d3_122)
    have V10 : Arv Z h10 nb2 k2 .char (4 : Int32) [(.int (nar .char x0)), (.int (nar .char x1)), (.int (0 : Int32)), (.int (0 : Int32))] (.int (0 : Int32)) := Arv.set Ar10 q10 S10 N10' H10 G10 (fits_nar_char _) W10 1 rfl (Nat.le_of_ble_eq_true rfl)
    refine own_st st10 ?_
    have f11 := (Safe.wr W6 Sw6 (own_Bk.ch B2) Sf2)
    have Sw10 := f11
    have B10 := own_Bk.wr W10 Sw10 B6
    have N10 := Fr.snoc X10 N6 g_nb2
    have K10 : Keep h0 h10 [] := K6.wr W10 (Or.inr sz_nb2)
    show own_Go p e below _ T10 (mkF m 123 #[.val (.int (4 : Int32)), .val (.ref b)] [(.ref nb2), (.ref nb1), (.ref nb1)])
    refine own_st (fun t_ k_ => XS.dup X10.here hx rfl (hb hby d3_123) rfl rfl k_) ?_
    show own_Go p e below _ T10 (mkF m 124 #[.val (.int (4 : Int32)), .val (.ref b)] [(.ref nb2), (.ref nb2), (.ref nb1), (.ref nb1)])
    refine own_st (fun t_ k_ => XS.iconst X10.here hx rfl (hb hby d3_124) k_) ?_
    show own_Go p e below _ T10 (mkF m 125 #[.val (.int (4 : Int32)), .val (.ref b)] [(.int (2 : Int32)), (.ref nb2), (.ref nb2), (.ref nb1), (.ref nb1)])
    refine own_st (fun t_ k_ => XS.aloadN X10.here hx rfl (hb hby d3_125) rfl rfl k_) ?_
    show own_Go p e below _ T10 (mkF m 126 #[.val (.int (4 : Int32)), .val (.ref b)] [(.ref b), (.int (2 : Int32)), (.ref nb2), (.ref nb2), (.ref nb1), (.ref nb1)])
    refine own_st (fun t_ k_ => XS.iconst X10.here hx rfl (hb hby d3_126) k_) ?_
    show own_Go p e below _ T10 (mkF m 127 #[.val (.int (4 : Int32)), .val (.ref b)] [(.int (2 : Int32)), (.ref b), (.int (2 : Int32)), (.ref nb2), (.ref nb2), (.ref nb1), (.ref nb1)])
    have f13 := (f5.other W6 ne8)
    have f14 := (f13.other W10 ne8)
    obtain ⟨cl12, Ar12, q12, S12, N12', H12, G12⟩ := id f14
    have hin12 : ¬ ((2 : Int32) < 0 ∨ cl12.slots.size ≤ ((2 : Int32)).toNatClampNeg) := inb_of S12 ⟨by decide, by decide⟩
    refine own_st (fun t_ k_ => X10.caload hx (j := (2 : Int32)) (v := (.int x2)) (by rw [e10]; exact Ar12.1) (State.isArrayOf_alike hZ.alike Ar12.2.1) Ar12.2.2 hin12 (Has.at H12 hin12 rfl) (g := (mkF m 127 #[.val (.int (4 : Int32)), .val (.ref b)] [(.int (2 : Int32)), (.ref b), (.int (2 : Int32)), (.ref nb2), (.ref nb2), (.ref nb1), (.ref nb1)])) rfl rfl (hb hby d3_127) t_ k_) ?_
    show own_Go p e below _ T10 (mkF m 128 #[.val (.int (4 : Int32)), .val (.ref b)] [(.int x2), (.int (2 : Int32)), (.ref nb2), (.ref nb2), (.ref nb1), (.ref nb1)])
    obtain ⟨cl15, Ar15, q15, S15, N15', H15, G15⟩ := id V10
    have hin15 : ¬ ((2 : Int32) < 0 ∨ cl15.slots.size ≤ ((2 : Int32)).toNatClampNeg) := inb_of S15 ⟨by decide, by decide⟩
    obtain ⟨T15, h15, X15, e15, W15, st15⟩ := stC X10 hx hZ e10 Ar15 (j := (2 : Int32)) hin15 (g := (mkF m 128 #[.val (.int (4 : Int32)), .val (.ref b)] [(.int x2), (.int (2 : Int32)), (.ref nb2), (.ref nb2), (.ref nb1), (.ref nb1)])) rfl rfl (hb hby d3_128)
    have V15 : Arv Z h15 nb2 k2 .char (4 : Int32) [(.int (nar .char x0)), (.int (nar .char x1)), (.int (nar .char x2)), (.int (0 : Int32))] (.int (0 : Int32)) := Arv.set Ar15 q15 S15 N15' H15 G15 (fits_nar_char _) W15 2 rfl (Nat.le_of_ble_eq_true rfl)
    refine own_st st15 ?_
    have f16 := (Safe.wr W10 Sw10 (own_Bk.ch B6) f11)
    have Sw15 := f16
    have B15 := own_Bk.wr W15 Sw15 B10
    have N15 := Fr.snoc X15 N10 g_nb2
    have K15 : Keep h0 h15 [] := K10.wr W15 (Or.inr sz_nb2)
    show own_Go p e below _ T15 (mkF m 129 #[.val (.int (4 : Int32)), .val (.ref b)] [(.ref nb2), (.ref nb1), (.ref nb1)])
    refine own_st (fun t_ k_ => XS.dup X15.here hx rfl (hb hby d3_129) rfl rfl k_) ?_
    show own_Go p e below _ T15 (mkF m 130 #[.val (.int (4 : Int32)), .val (.ref b)] [(.ref nb2), (.ref nb2), (.ref nb1), (.ref nb1)])
    refine own_st (fun t_ k_ => XS.iconst X15.here hx rfl (hb hby d3_130) k_) ?_
    show own_Go p e below _ T15 (mkF m 131 #[.val (.int (4 : Int32)), .val (.ref b)] [(.int (3 : Int32)), (.ref nb2), (.ref nb2), (.ref nb1), (.ref nb1)])
    refine own_st (fun t_ k_ => XS.aloadN X15.here hx rfl (hb hby d3_131) rfl rfl k_) ?_
    show own_Go p e below _ T15 (mkF m 132 #[.val (.int (4 : Int32)), .val (.ref b)] [(.ref b), (.int (3 : Int32)), (.ref nb2), (.ref nb2), (.ref nb1), (.ref nb1)])
    refine own_st (fun t_ k_ => XS.iconst X15.here hx rfl (hb hby d3_132) k_) ?_
    show own_Go p e below _ T15 (mkF m 133 #[.val (.int (4 : Int32)), .val (.ref b)] [(.int (3 : Int32)), (.ref b), (.int (3 : Int32)), (.ref nb2), (.ref nb2), (.ref nb1), (.ref nb1)])
    have f18 := (f14.other W15 ne8)
    obtain ⟨cl17, Ar17, q17, S17, N17', H17, G17⟩ := id f18
    have hin17 : ¬ ((3 : Int32) < 0 ∨ cl17.slots.size ≤ ((3 : Int32)).toNatClampNeg) := inb_of S17 ⟨by decide, by decide⟩
    refine own_st (fun t_ k_ => X15.caload hx (j := (3 : Int32)) (v := (.int x3)) (by rw [e15]; exact Ar17.1) (State.isArrayOf_alike hZ.alike Ar17.2.1) Ar17.2.2 hin17 (Has.at H17 hin17 rfl) (g := (mkF m 133 #[.val (.int (4 : Int32)), .val (.ref b)] [(.int (3 : Int32)), (.ref b), (.int (3 : Int32)), (.ref nb2), (.ref nb2), (.ref nb1), (.ref nb1)])) rfl rfl (hb hby d3_133) t_ k_) ?_
    show own_Go p e below _ T15 (mkF m 134 #[.val (.int (4 : Int32)), .val (.ref b)] [(.int x3), (.int (3 : Int32)), (.ref nb2), (.ref nb2), (.ref nb1), (.ref nb1)])
    obtain ⟨cl19, Ar19, q19, S19, N19', H19, G19⟩ := id V15
    have hin19 : ¬ ((3 : Int32) < 0 ∨ cl19.slots.size ≤ ((3 : Int32)).toNatClampNeg) := inb_of S19 ⟨by decide, by decide⟩
    obtain ⟨T19, h19, X19, e19, W19, st19⟩ := stC X15 hx hZ e15 Ar19 (j := (3 : Int32)) hin19 (g := (mkF m 134 #[.val (.int (4 : Int32)), .val (.ref b)] [(.int x3), (.int (3 : Int32)), (.ref nb2), (.ref nb2), (.ref nb1), (.ref nb1)])) rfl rfl (hb hby d3_134)
    have V19 : Arv Z h19 nb2 k2 .char (4 : Int32) [(.int (nar .char x0)), (.int (nar .char x1)), (.int (nar .char x2)), (.int (nar .char x3))] (.int (0 : Int32)) := Arv.set Ar19 q19 S19 N19' H19 G19 (fits_nar_char _) W19 3 rfl (Nat.le_of_ble_eq_true rfl)
    refine own_st st19 ?_
    have f20 := (Safe.wr W15 Sw15 (own_Bk.ch B10) f16)
    have Sw19 := f20
    have B19 := own_Bk.wr W19 Sw19 B15
    have N19 := Fr.snoc X19 N15 g_nb2
    have K19 : Keep h0 h19 [] := K15.wr W19 (Or.inr sz_nb2)
    show own_Go p e below _ T19 (mkF m 135 #[.val (.int (4 : Int32)), .val (.ref b)] [(.ref nb2), (.ref nb1), (.ref nb1)])
    have hp21 : ∀ c ∈ ([(nar .char x0), (nar .char x1), (nar .char x2), (nar .char x3)] : List Int32), ¬ c < 0 ∧ ¬ (255 : Int32) < c := (own_lcons (own_LLN hL0) (own_lcons (own_LLN hL1) (own_lcons (own_LLN hL2) (own_lcons (own_LLN hL3) own_lnil))))
    have f22 := (Exa.ext E2 A1)
    have f23 := (Exa.wr W6 f22)
    have f24 := (Exa.wr W10 f23)
    have f25 := (Exa.wr W15 f24)
    have f26 := (Exa.wr W19 f25)
    have f27 := (Fld.ext E2 F1_value)
    have ne28 : nb1 ≠ nb2 := (Nat.ne_of_lt (Nat.lt_of_lt_of_le A1.lt (Nat.le_of_eq g2.symm)))
    have f29 := (Fld.other W6 f27 (Or.inl ne28))
    have f30 := (Fld.other W10 f29 (Or.inl ne28))
    have f31 := (Fld.other W15 f30 (Or.inl ne28))
    have f32 := (Fld.other W19 f31 (Or.inl ne28))
    have f33 := (Fld.ext E2 F1_coder)
    have f34 := (Fld.other W6 f33 (Or.inl ne28))
    have f35 := (Fld.other W10 f34 (Or.inl ne28))
    have f36 := (Fld.other W15 f35 (Or.inl ne28))
    have f37 := (Fld.other W19 f36 (Or.inl ne28))
    have f38 := (O0.ext E1)
    have f39 := (f38.ext E2)
    have f40 := (f39.wr W6 g_nb2)
    have f41 := (f40.wr W10 g_nb2)
    have f42 := (f41.wr W15 g_nb2)
    have f43 := (f42.wr W19 g_nb2)
    refine own_callN X19 hx (y := (⟨"java/lang/String", "<init>", "([C)V"⟩ : MethodName)) rfl hown (mvT hZ (hw _ (List.mem_of_getElem? (i := 10) rfl))) (mvT hZ (hw _ (List.mem_of_getElem? (i := 11) rfl))) (mvT hZ (hw _ (List.mem_of_getElem? (i := 12) rfl))) (by decide) (StrChars.Road.backV (W := 1) hZ (own_words hw) (kI := 4) (hw _ (List.mem_of_getElem? (i := 8) rfl)) (cs := ([(nar .char x0), (nar .char x1), (nar .char x2), (nar .char x3)] : List Int32)) (bs := ([(nar .char x0), (nar .char x1), (nar .char x2), (nar .char x3)] : List Int32).map (fun c => c.toInt8.toInt32)) (n := 4) g_nb1 (Nat.le_trans Z0 K19.1) f26 f32 f37 V19 (Sta.ext f43.2 SC) hCS rfl rfl (by decide) (by decide) hp21 rfl (by decide) (by decide)) (a := nb1) (g := (mkF m 135 #[.val (.int (4 : Int32)), .val (.ref b)] [(.ref nb2), (.ref nb1), (.ref nb1)])) rfl (by rw [hml]; rfl) (argsL := [(.ref nb2)]) (rest := [(.ref nb1)]) (lenOf pd_1 rfl) rfl (by show 2 * 0 + _ ≤ _; exact Nat.le_of_eq rfl) (hb hby d3_135) rfl e19 (by decide) (by decide) ?_
    rintro v21 T21 L21 X21 ⟨rfl, Nq21, Kq21, Eq21, Cq21, t21, kb21, g_t21, gt21, nt21, Vq21, Aq21⟩
    have sz_t21 : h0.size ≤ t21 := Nat.le_trans K19.1 gt21
    have N21 := Fr.app N19 Nq21
    have K21 : Keep h0 T21.heap [] := K19.trans Kq21 (allS (Or.inr sz_nb1) all0)
    have f44 := (Safe.ext E2 (own_Bk.ch B1) Sf1)
    have f45 := (Safe.wr W6 Sw6 (own_Bk.ch B2) f44)
    have f46 := (Safe.wr W10 Sw10 (own_Bk.ch B6) f45)
    have f47 := (Safe.wr W15 Sw15 (own_Bk.ch B10) f46)
    have f48 := (Safe.wr W19 Sw19 (own_Bk.ch B15) f47)
    have B21 := own_Bk.keep Kq21 (sfS f48 sf0) B19
    show own_Go p e below _ T21 (mkF m 138 #[.val (.int (4 : Int32)), .val (.ref b)] [(.ref nb1)])
    have ecs : own_str (4 : Int32) [x0, x1, x2, x3, x4, x5, x6, x7] = ([(nar .char x0), (nar .char x1), (nar .char x2), (nar .char x3)] : List Int32) := by simp [own_str, own_LN hL0, own_LN hL1, own_LN hL2, own_LN hL3, own_LN hL4, own_LN hL5, own_LN hL6, own_LN hL7]
    refine own_retAS X21 hx hlk hZ hEL rfl hh B21 Bd.returns rfl rfl (hb hby d3_138) ?_ (by decide) (by decide)
    show QM Z (own_str (4 : Int32) [x0, x1, x2, x3, x4, x5, x6, x7]) h0 n0 _ T21.heap _
    exact ⟨nb1, t21, kb21, rfl, N21, K21, sz_nb1, g_nb1, nt21, Eq21, Cq21, Vq21, by rw [ecs]; exact Aq21, by rw [ecs]; exact hp21⟩
  · show own_Go p e below _ s₁ (mkF m 0 #[.val (.int (5 : Int32)), .val (.ref b)] [])
    refine own_st (fun t_ k_ => XS.iloadN X0.here hx rfl (hb hby d3_0) rfl k_) ?_
    show own_Go p e below _ s₁ (mkF m 1 #[.val (.int (5 : Int32)), .val (.ref b)] [(.int (5 : Int32))])
    refine own_st (fun t_ k_ => XS.ifYes X0.here hx rfl (pc0 := 1) (pc' := 15) rfl (hb hby d3_1) rfl (by decide) (by decide) (by decide) k_) ?_
    show own_Go p e below _ s₁ (mkF m 15 #[.val (.int (5 : Int32)), .val (.ref b)] [])
    refine own_st (fun t_ k_ => XS.iloadN X0.here hx rfl (hb hby d3_15) rfl k_) ?_
    show own_Go p e below _ s₁ (mkF m 16 #[.val (.int (5 : Int32)), .val (.ref b)] [(.int (5 : Int32))])
    refine own_st (fun t_ k_ => XS.iconst X0.here hx rfl (hb hby d3_16) k_) ?_
    show own_Go p e below _ s₁ (mkF m 17 #[.val (.int (5 : Int32)), .val (.ref b)] [(.int (1 : Int32)), (.int (5 : Int32))])
    refine own_st (fun t_ k_ => XS.icmpYes X0.here hx rfl (pc0 := 17) (pc' := 37) rfl (hb hby d3_17) rfl (by decide) (by decide) (by decide) k_) ?_
    show own_Go p e below _ s₁ (mkF m 37 #[.val (.int (5 : Int32)), .val (.ref b)] [])
    refine own_st (fun t_ k_ => XS.iloadN X0.here hx rfl (hb hby d3_37) rfl k_) ?_
    show own_Go p e below _ s₁ (mkF m 38 #[.val (.int (5 : Int32)), .val (.ref b)] [(.int (5 : Int32))])
    refine own_st (fun t_ k_ => XS.iconst X0.here hx rfl (hb hby d3_38) k_) ?_
    show own_Go p e below _ s₁ (mkF m 39 #[.val (.int (5 : Int32)), .val (.ref b)] [(.int (2 : Int32)), (.int (5 : Int32))])
    refine own_st (fun t_ k_ => XS.icmpYes X0.here hx rfl (pc0 := 39) (pc' := 65) rfl (hb hby d3_39) rfl (by decide) (by decide) (by decide) k_) ?_
    show own_Go p e below _ s₁ (mkF m 65 #[.val (.int (5 : Int32)), .val (.ref b)] [])
    refine own_st (fun t_ k_ => XS.iloadN X0.here hx rfl (hb hby d3_65) rfl k_) ?_
    show own_Go p e below _ s₁ (mkF m 66 #[.val (.int (5 : Int32)), .val (.ref b)] [(.int (5 : Int32))])
    refine own_st (fun t_ k_ => XS.iconst X0.here hx rfl (hb hby d3_66) k_) ?_
    show own_Go p e below _ s₁ (mkF m 67 #[.val (.int (5 : Int32)), .val (.ref b)] [(.int (3 : Int32)), (.int (5 : Int32))])
    refine own_st (fun t_ k_ => XS.icmpYes X0.here hx rfl (pc0 := 67) (pc' := 99) rfl (hb hby d3_67) rfl (by decide) (by decide) (by decide) k_) ?_
    show own_Go p e below _ s₁ (mkF m 99 #[.val (.int (5 : Int32)), .val (.ref b)] [])
    refine own_st (fun t_ k_ => XS.iloadN X0.here hx rfl (hb hby d3_99) rfl k_) ?_
    show own_Go p e below _ s₁ (mkF m 100 #[.val (.int (5 : Int32)), .val (.ref b)] [(.int (5 : Int32))])
    refine own_st (fun t_ k_ => XS.iconst X0.here hx rfl (hb hby d3_100) k_) ?_
    show own_Go p e below _ s₁ (mkF m 101 #[.val (.int (5 : Int32)), .val (.ref b)] [(.int (4 : Int32)), (.int (5 : Int32))])
    refine own_st (fun t_ k_ => XS.icmpYes X0.here hx rfl (pc0 := 101) (pc' := 139) rfl (hb hby d3_101) rfl (by decide) (by decide) (by decide) k_) ?_
    show own_Go p e below _ s₁ (mkF m 139 #[.val (.int (5 : Int32)), .val (.ref b)] [])
    refine own_st (fun t_ k_ => XS.iloadN X0.here hx rfl (hb hby d3_139) rfl k_) ?_
    show own_Go p e below _ s₁ (mkF m 140 #[.val (.int (5 : Int32)), .val (.ref b)] [(.int (5 : Int32))])
    refine own_st (fun t_ k_ => XS.iconst X0.here hx rfl (hb hby d3_140) k_) ?_
    show own_Go p e below _ s₁ (mkF m 141 #[.val (.int (5 : Int32)), .val (.ref b)] [(.int (5 : Int32)), (.int (5 : Int32))])
    refine own_st (fun t_ k_ => XS.icmpNo X0.here hx rfl (hb hby d3_141) rfl (by decide) k_) ?_
    show own_Go p e below _ s₁ (mkF m 144 #[.val (.int (5 : Int32)), .val (.ref b)] [])
    obtain ⟨T1, h1, X1, e1, E1, A1, D1, cel1, st1⟩ := newO X0 hx hZ hown (hw _ (List.mem_of_getElem? (i := 7) rfl)) (hw _ (List.mem_of_getElem? (i := 8) rfl)) (hw _ (List.mem_of_getElem? (i := 9) rfl)) e0 (g := (mkF m 144 #[.val (.int (5 : Int32)), .val (.ref b)] [])) rfl (hb hby d3_144) (by decide) (by decide)
    obtain ⟨nb1, g1⟩ : ∃ z, z = h0.size := ⟨_, rfl⟩
    rw [← g1] at A1 D1 cel1 st1
    refine own_st st1 ?_
    have g_nb1 : n0 ≤ nb1 := Nat.le_trans (Nat.le_trans Z0 (Keep.refl h0 []).1) (Nat.le_of_eq g1.symm)
    have K1 : Keep h0 h1 [] := (Keep.refl h0 []).ext E1
    have sz_nb1 : h0.size ≤ nb1 := Nat.le_trans (Keep.refl h0 []).1 (Nat.le_of_eq g1.symm)
    have B1 := own_Bk.ext E1 B0
    have Sf1 := Safe.ext E1 (own_Bk.ch B0) (Safe.new (Nat.le_of_eq g1.symm))
    have F1_coder : Fld Z h1 nb1 "java/lang/String" "coder" "B" (.int (0 : Int32)) := D1 (Or.inr (hw _ (List.mem_of_getElem? (i := 33) rfl))) (ty := .byte) (by decide)
    have F1_value : Fld Z h1 nb1 "java/lang/String" "value" "[B" .null := D1 (Or.inr (hw _ (List.mem_of_getElem? (i := 35) rfl))) (ty := (.array .byte)) (by decide)
    show own_Go p e below _ T1 (mkF m 147 #[.val (.int (5 : Int32)), .val (.ref b)] [(.ref nb1)])
    refine own_st (fun t_ k_ => XS.dup X1.here hx rfl (hb hby d3_147) rfl rfl k_) ?_
    show own_Go p e below _ T1 (mkF m 148 #[.val (.int (5 : Int32)), .val (.ref b)] [(.ref nb1), (.ref nb1)])
    refine own_st (fun t_ k_ => XS.iconst X1.here hx rfl (hb hby d3_148) k_) ?_
    show own_Go p e below _ T1 (mkF m 149 #[.val (.int (5 : Int32)), .val (.ref b)] [(.int (5 : Int32)), (.ref nb1), (.ref nb1)])
    obtain ⟨T2, h2, k2, X2, e2, E2, A2, st2⟩ := newP X1 hx hZ (hw _ (List.mem_of_getElem? (i := 1) rfl)) e1 (g := (mkF m 149 #[.val (.int (5 : Int32)), .val (.ref b)] [(.int (5 : Int32)), (.ref nb1), (.ref nb1)])) rfl (hb hby d3_149) rfl (by decide) (cap := 5) (by decide) (by decide) (by decide) (by decide)
    obtain ⟨nb2, g2⟩ : ∃ z, z = h1.size := ⟨_, rfl⟩
    rw [← g2] at A2 st2
    refine own_st st2 ?_
    have g_nb2 : n0 ≤ nb2 := Nat.le_trans (Nat.le_trans Z0 K1.1) (Nat.le_of_eq g2.symm)
    have K2 : Keep h0 h2 [] := K1.ext E2
    have sz_nb2 : h0.size ≤ nb2 := Nat.le_trans K1.1 (Nat.le_of_eq g2.symm)
    have B2 := own_Bk.ext E2 B1
    have Sf2 := Safe.ext E2 (own_Bk.ch B1) (Safe.new (Nat.le_of_eq g2.symm))
    have V2 : Arv Z h2 nb2 k2 .char (5 : Int32) [(.int (0 : Int32)), (.int (0 : Int32)), (.int (0 : Int32)), (.int (0 : Int32)), (.int (0 : Int32))] (.int (0 : Int32)) := (Arv.new A2 (by decide)).pad (pad_rep [] (.int (0 : Int32)) 5)
    show own_Go p e below _ T2 (mkF m 151 #[.val (.int (5 : Int32)), .val (.ref b)] [(.ref nb2), (.ref nb1), (.ref nb1)])
    refine own_st (fun t_ k_ => XS.dup X2.here hx rfl (hb hby d3_151) rfl rfl k_) ?_
    show own_Go p e below _ T2 (mkF m 152 #[.val (.int (5 : Int32)), .val (.ref b)] [(.ref nb2), (.ref nb2), (.ref nb1), (.ref nb1)])
    refine own_st (fun t_ k_ => XS.iconst X2.here hx rfl (hb hby d3_152) k_) ?_
    show own_Go p e below _ T2 (mkF m 153 #[.val (.int (5 : Int32)), .val (.ref b)] [(.int (0 : Int32)), (.ref nb2), (.ref nb2), (.ref nb1), (.ref nb1)])
    refine own_st (fun t_ k_ => XS.aloadN X2.here hx rfl (hb hby d3_153) rfl rfl k_) ?_
    show own_Go p e below _ T2 (mkF m 154 #[.val (.int (5 : Int32)), .val (.ref b)] [(.ref b), (.int (0 : Int32)), (.ref nb2), (.ref nb2), (.ref nb1), (.ref nb1)])
    refine own_st (fun t_ k_ => XS.iconst X2.here hx rfl (hb hby d3_154) k_) ?_
    show own_Go p e below _ T2 (mkF m 155 #[.val (.int (5 : Int32)), .val (.ref b)] [(.int (0 : Int32)), (.ref b), (.int (0 : Int32)), (.ref nb2), (.ref nb2), (.ref nb1), (.ref nb1)])
    have f4 := (Ab.ext E1)
    have f5 := (f4.ext E2)
    obtain ⟨cl3, Ar3, q3, S3, N3', H3, G3⟩ := id f5
    have hin3 : ¬ ((0 : Int32) < 0 ∨ cl3.slots.size ≤ ((0 : Int32)).toNatClampNeg) := inb_of S3 ⟨by decide, by decide⟩
    refine own_st (fun t_ k_ => X2.caload hx (j := (0 : Int32)) (v := (.int x0)) (by rw [e2]; exact Ar3.1) (State.isArrayOf_alike hZ.alike Ar3.2.1) Ar3.2.2 hin3 (Has.at H3 hin3 rfl) (g := (mkF m 155 #[.val (.int (5 : Int32)), .val (.ref b)] [(.int (0 : Int32)), (.ref b), (.int (0 : Int32)), (.ref nb2), (.ref nb2), (.ref nb1), (.ref nb1)])) rfl rfl (hb hby d3_155) t_ k_) ?_
    show own_Go p e below _ T2 (mkF m 156 #[.val (.int (5 : Int32)), .val (.ref b)] [(.int x0), (.int (0 : Int32)), (.ref nb2), (.ref nb2), (.ref nb1), (.ref nb1)])
    obtain ⟨cl6, Ar6, q6, S6, N6', H6, G6⟩ := id V2
    have hin6 : ¬ ((0 : Int32) < 0 ∨ cl6.slots.size ≤ ((0 : Int32)).toNatClampNeg) := inb_of S6 ⟨by decide, by decide⟩
    obtain ⟨T6, h6, X6, e6, W6, st6⟩ := stC X2 hx hZ e2 Ar6 (j := (0 : Int32)) hin6 (g := (mkF m 156 #[.val (.int (5 : Int32)), .val (.ref b)] [(.int x0), (.int (0 : Int32)), (.ref nb2), (.ref nb2), (.ref nb1), (.ref nb1)])) rfl rfl (hb hby d3_156)
    have V6 : Arv Z h6 nb2 k2 .char (5 : Int32) [(.int (nar .char x0)), (.int (0 : Int32)), (.int (0 : Int32)), (.int (0 : Int32)), (.int (0 : Int32))] (.int (0 : Int32)) := Arv.set Ar6 q6 S6 N6' H6 G6 (fits_nar_char _) W6 0 rfl (Nat.le_of_ble_eq_true rfl)
    refine own_st st6 ?_
    have Sw6 := Sf2
    have B6 := own_Bk.wr W6 Sw6 B2
    have N6 := Fr.snoc X6 N0 g_nb2
    have K6 : Keep h0 h6 [] := K2.wr W6 (Or.inr sz_nb2)
    show own_Go p e below _ T6 (mkF m 157 #[.val (.int (5 : Int32)), .val (.ref b)] [(.ref nb2), (.ref nb1), (.ref nb1)])
    refine own_st (fun t_ k_ => XS.dup X6.here hx rfl (hb hby d3_157) rfl rfl k_) ?_
    show own_Go p e below _ T6 (mkF m 158 #[.val (.int (5 : Int32)), .val (.ref b)] [(.ref nb2), (.ref nb2), (.ref nb1), (.ref nb1)])
    refine own_st (fun t_ k_ => XS.iconst X6.here hx rfl (hb hby d3_158) k_) ?_
    show own_Go p e below _ T6 (mkF m 159 #[.val (.int (5 : Int32)), .val (.ref b)] [(.int (1 : Int32)), (.ref nb2), (.ref nb2), (.ref nb1), (.ref nb1)])
    refine own_st (fun t_ k_ => XS.aloadN X6.here hx rfl (hb hby d3_159) rfl rfl k_) ?_
    show own_Go p e below _ T6 (mkF m 160 #[.val (.int (5 : Int32)), .val (.ref b)] [(.ref b), (.int (1 : Int32)), (.ref nb2), (.ref nb2), (.ref nb1), (.ref nb1)])
    refine own_st (fun t_ k_ => XS.iconst X6.here hx rfl (hb hby d3_160) k_) ?_
    show own_Go p e below _ T6 (mkF m 161 #[.val (.int (5 : Int32)), .val (.ref b)] [(.int (1 : Int32)), (.ref b), (.int (1 : Int32)), (.ref nb2), (.ref nb2), (.ref nb1), (.ref nb1)])
    have ne8 : b ≠ nb2 := (Nat.ne_of_lt (Nat.lt_of_lt_of_le f4.lt (Nat.le_of_eq g2.symm)))
    have f9 := (f5.other W6 ne8)
    obtain ⟨cl7, Ar7, q7, S7, N7', H7, G7⟩ := id f9
    have hin7 : ¬ ((1 : Int32) < 0 ∨ cl7.slots.size ≤ ((1 : Int32)).toNatClampNeg) := inb_of S7 ⟨by decide, by decide⟩
    refine own_st (fun t_ k_ => X6.caload hx (j := (1 : Int32)) (v := (.int x1)) (by rw [e6]; exact Ar7.1) (State.isArrayOf_alike hZ.alike Ar7.2.1) Ar7.2.2 hin7 (Has.at H7 hin7 rfl) (g := (mkF m 161 #[.val (.int (5 : Int32)), .val (.ref b)] [(.int (1 : Int32)), (.ref b), (.int (1 : Int32)), (.ref nb2), (.ref nb2), (.ref nb1), (.ref nb1)])) rfl rfl (hb hby d3_161) t_ k_) ?_
    show own_Go p e below _ T6 (mkF m 162 #[.val (.int (5 : Int32)), .val (.ref b)] [(.int x1), (.int (1 : Int32)), (.ref nb2), (.ref nb2), (.ref nb1), (.ref nb1)])
    obtain ⟨cl10, Ar10, q10, S10, N10', H10, G10⟩ := id V6
    have hin10 : ¬ ((1 : Int32) < 0 ∨ cl10.slots.size ≤ ((1 : Int32)).toNatClampNeg) := inb_of S10 ⟨by decide, by decide⟩
    obtain ⟨T10, h10, X10, e10, W10, st10⟩ := stC X6 hx hZ e6 Ar10 (j := (1 : Int32)) hin10 (g := (mkF m 162 #[.val (.int (5 : Int32)), .val (.ref b)] [(.int x1), (.int (1 : Int32)), (.ref nb2), (.ref nb2), (.ref nb1), (.ref nb1)])) rfl rfl (hb hby d3_162)
    have V10 : Arv Z h10 nb2 k2 .char (5 : Int32) [(.int (nar .char x0)), (.int (nar .char x1)), (.int (0 : Int32)), (.int (0 : Int32)), (.int (0 : Int32))] (.int (0 : Int32)) := Arv.set Ar10 q10 S10 N10' H10 G10 (fits_nar_char _) W10 1 rfl (Nat.le_of_ble_eq_true rfl)
    refine own_st st10 ?_
    have f11 := (Safe.wr W6 Sw6 (own_Bk.ch B2) Sf2)
    have Sw10 := f11
    have B10 := own_Bk.wr W10 Sw10 B6
    have N10 := Fr.snoc X10 N6 g_nb2
    have K10 : Keep h0 h10 [] := K6.wr W10 (Or.inr sz_nb2)
    show own_Go p e below _ T10 (mkF m 163 #[.val (.int (5 : Int32)), .val (.ref b)] [(.ref nb2), (.ref nb1), (.ref nb1)])
    refine own_st (fun t_ k_ => XS.dup X10.here hx rfl (hb hby d3_163) rfl rfl k_) ?_
    show own_Go p e below _ T10 (mkF m 164 #[.val (.int (5 : Int32)), .val (.ref b)] [(.ref nb2), (.ref nb2), (.ref nb1), (.ref nb1)])
    refine own_st (fun t_ k_ => XS.iconst X10.here hx rfl (hb hby d3_164) k_) ?_
    show own_Go p e below _ T10 (mkF m 165 #[.val (.int (5 : Int32)), .val (.ref b)] [(.int (2 : Int32)), (.ref nb2), (.ref nb2), (.ref nb1), (.ref nb1)])
    refine own_st (fun t_ k_ => XS.aloadN X10.here hx rfl (hb hby d3_165) rfl rfl k_) ?_
    show own_Go p e below _ T10 (mkF m 166 #[.val (.int (5 : Int32)), .val (.ref b)] [(.ref b), (.int (2 : Int32)), (.ref nb2), (.ref nb2), (.ref nb1), (.ref nb1)])
    refine own_st (fun t_ k_ => XS.iconst X10.here hx rfl (hb hby d3_166) k_) ?_
    show own_Go p e below _ T10 (mkF m 167 #[.val (.int (5 : Int32)), .val (.ref b)] [(.int (2 : Int32)), (.ref b), (.int (2 : Int32)), (.ref nb2), (.ref nb2), (.ref nb1), (.ref nb1)])
    have f13 := (f5.other W6 ne8)
    have f14 := (f13.other W10 ne8)
    obtain ⟨cl12, Ar12, q12, S12, N12', H12, G12⟩ := id f14
    have hin12 : ¬ ((2 : Int32) < 0 ∨ cl12.slots.size ≤ ((2 : Int32)).toNatClampNeg) := inb_of S12 ⟨by decide, by decide⟩
    refine own_st (fun t_ k_ => X10.caload hx (j := (2 : Int32)) (v := (.int x2)) (by rw [e10]; exact Ar12.1) (State.isArrayOf_alike hZ.alike Ar12.2.1) Ar12.2.2 hin12 (Has.at H12 hin12 rfl) (g := (mkF m 167 #[.val (.int (5 : Int32)), .val (.ref b)] [(.int (2 : Int32)), (.ref b), (.int (2 : Int32)), (.ref nb2), (.ref nb2), (.ref nb1), (.ref nb1)])) rfl rfl (hb hby d3_167) t_ k_) ?_
    show own_Go p e below _ T10 (mkF m 168 #[.val (.int (5 : Int32)), .val (.ref b)] [(.int x2), (.int (2 : Int32)), (.ref nb2), (.ref nb2), (.ref nb1), (.ref nb1)])
    obtain ⟨cl15, Ar15, q15, S15, N15', H15, G15⟩ := id V10
    have hin15 : ¬ ((2 : Int32) < 0 ∨ cl15.slots.size ≤ ((2 : Int32)).toNatClampNeg) := inb_of S15 ⟨by decide, by decide⟩
    obtain ⟨T15, h15, X15, e15, W15, st15⟩ := stC X10 hx hZ e10 Ar15 (j := (2 : Int32)) hin15 (g := (mkF m 168 #[.val (.int (5 : Int32)), .val (.ref b)] [(.int x2), (.int (2 : Int32)), (.ref nb2), (.ref nb2), (.ref nb1), (.ref nb1)])) rfl rfl (hb hby d3_168)
    have V15 : Arv Z h15 nb2 k2 .char (5 : Int32) [(.int (nar .char x0)), (.int (nar .char x1)), (.int (nar .char x2)), (.int (0 : Int32)), (.int (0 : Int32))] (.int (0 : Int32)) := Arv.set Ar15 q15 S15 N15' H15 G15 (fits_nar_char _) W15 2 rfl (Nat.le_of_ble_eq_true rfl)
    refine own_st st15 ?_
    have f16 := (Safe.wr W10 Sw10 (own_Bk.ch B6) f11)
    have Sw15 := f16
    have B15 := own_Bk.wr W15 Sw15 B10
    have N15 := Fr.snoc X15 N10 g_nb2
    have K15 : Keep h0 h15 [] := K10.wr W15 (Or.inr sz_nb2)
    show own_Go p e below _ T15 (mkF m 169 #[.val (.int (5 : Int32)), .val (.ref b)] [(.ref nb2), (.ref nb1), (.ref nb1)])
    refine own_st (fun t_ k_ => XS.dup X15.here hx rfl (hb hby d3_169) rfl rfl k_) ?_
    show own_Go p e below _ T15 (mkF m 170 #[.val (.int (5 : Int32)), .val (.ref b)] [(.ref nb2), (.ref nb2), (.ref nb1), (.ref nb1)])
    refine own_st (fun t_ k_ => XS.iconst X15.here hx rfl (hb hby d3_170) k_) ?_
    show own_Go p e below _ T15 (mkF m 171 #[.val (.int (5 : Int32)), .val (.ref b)] [(.int (3 : Int32)), (.ref nb2), (.ref nb2), (.ref nb1), (.ref nb1)])
    refine own_st (fun t_ k_ => XS.aloadN X15.here hx rfl (hb hby d3_171) rfl rfl k_) ?_
    show own_Go p e below _ T15 (mkF m 172 #[.val (.int (5 : Int32)), .val (.ref b)] [(.ref b), (.int (3 : Int32)), (.ref nb2), (.ref nb2), (.ref nb1), (.ref nb1)])
    refine own_st (fun t_ k_ => XS.iconst X15.here hx rfl (hb hby d3_172) k_) ?_
    show own_Go p e below _ T15 (mkF m 173 #[.val (.int (5 : Int32)), .val (.ref b)] [(.int (3 : Int32)), (.ref b), (.int (3 : Int32)), (.ref nb2), (.ref nb2), (.ref nb1), (.ref nb1)])
    have f18 := (f14.other W15 ne8)
    obtain ⟨cl17, Ar17, q17, S17, N17', H17, G17⟩ := id f18
    have hin17 : ¬ ((3 : Int32) < 0 ∨ cl17.slots.size ≤ ((3 : Int32)).toNatClampNeg) := inb_of S17 ⟨by decide, by decide⟩
    refine own_st (fun t_ k_ => X15.caload hx (j := (3 : Int32)) (v := (.int x3)) (by rw [e15]; exact Ar17.1) (State.isArrayOf_alike hZ.alike Ar17.2.1) Ar17.2.2 hin17 (Has.at H17 hin17 rfl) (g := (mkF m 173 #[.val (.int (5 : Int32)), .val (.ref b)] [(.int (3 : Int32)), (.ref b), (.int (3 : Int32)), (.ref nb2), (.ref nb2), (.ref nb1), (.ref nb1)])) rfl rfl (hb hby d3_173) t_ k_) ?_
    show own_Go p e below _ T15 (mkF m 174 #[.val (.int (5 : Int32)), .val (.ref b)] [(.int x3), (.int (3 : Int32)), (.ref nb2), (.ref nb2), (.ref nb1), (.ref nb1)])
    obtain ⟨cl19, Ar19, q19, S19, N19', H19, G19⟩ := id V15
    have hin19 : ¬ ((3 : Int32) < 0 ∨ cl19.slots.size ≤ ((3 : Int32)).toNatClampNeg) := inb_of S19 ⟨by decide, by decide⟩
    obtain ⟨T19, h19, X19, e19, W19, st19⟩ := stC X15 hx hZ e15 Ar19 (j := (3 : Int32)) hin19 (g := (mkF m 174 #[.val (.int (5 : Int32)), .val (.ref b)] [(.int x3), (.int (3 : Int32)), (.ref nb2), (.ref nb2), (.ref nb1), (.ref nb1)])) rfl rfl (hb hby d3_174)
    have V19 : Arv Z h19 nb2 k2 .char (5 : Int32) [(.int (nar .char x0)), (.int (nar .char x1)), (.int (nar .char x2)), (.int (nar .char x3)), (.int (0 : Int32))] (.int (0 : Int32)) := Arv.set Ar19 q19 S19 N19' H19 G19 (fits_nar_char _) W19 3 rfl (Nat.le_of_ble_eq_true rfl)
    refine own_st st19 ?_
    have f20 := (Safe.wr W15 Sw15 (own_Bk.ch B10) f16)
    have Sw19 := f20
    have B19 := own_Bk.wr W19 Sw19 B15
    have N19 := Fr.snoc X19 N15 g_nb2
    have K19 : Keep h0 h19 [] := K15.wr W19 (Or.inr sz_nb2)
    show own_Go p e below _ T19 (mkF m 175 #[.val (.int (5 : Int32)), .val (.ref b)] [(.ref nb2), (.ref nb1), (.ref nb1)])
    refine own_st (fun t_ k_ => XS.dup X19.here hx rfl (hb hby d3_175) rfl rfl k_) ?_
    show own_Go p e below _ T19 (mkF m 176 #[.val (.int (5 : Int32)), .val (.ref b)] [(.ref nb2), (.ref nb2), (.ref nb1), (.ref nb1)])
    refine own_st (fun t_ k_ => XS.iconst X19.here hx rfl (hb hby d3_176) k_) ?_
    show own_Go p e below _ T19 (mkF m 177 #[.val (.int (5 : Int32)), .val (.ref b)] [(.int (4 : Int32)), (.ref nb2), (.ref nb2), (.ref nb1), (.ref nb1)])
    refine own_st (fun t_ k_ => XS.aloadN X19.here hx rfl (hb hby d3_177) rfl rfl k_) ?_
    show own_Go p e below _ T19 (mkF m 178 #[.val (.int (5 : Int32)), .val (.ref b)] [(.ref b), (.int (4 : Int32)), (.ref nb2), (.ref nb2), (.ref nb1), (.ref nb1)])
    refine own_st (fun t_ k_ => XS.iconst X19.here hx rfl (hb hby d3_178) k_) ?_
    show own_Go p e below _ T19 (mkF m 179 #[.val (.int (5 : Int32)), .val (.ref b)] [(.int (4 : Int32)), (.ref b), (.int (4 : Int32)), (.ref nb2), (.ref nb2), (.ref nb1), (.ref nb1)])
    have f22 := (f18.other W19 ne8)
    obtain ⟨cl21, Ar21, q21, S21, N21', H21, G21⟩ := id f22
    have hin21 : ¬ ((4 : Int32) < 0 ∨ cl21.slots.size ≤ ((4 : Int32)).toNatClampNeg) := inb_of S21 ⟨by decide, by decide⟩
    refine own_st (fun t_ k_ => X19.caload hx (j := (4 : Int32)) (v := (.int x4)) (by rw [e19]; exact Ar21.1) (State.isArrayOf_alike hZ.alike Ar21.2.1) Ar21.2.2 hin21 (Has.at H21 hin21 rfl) (g := (mkF m 179 #[.val (.int (5 : Int32)), .val (.ref b)] [(.int (4 : Int32)), (.ref b), (.int (4 : Int32)), (.ref nb2), (.ref nb2), (.ref nb1), (.ref nb1)])) rfl rfl (hb hby d3_179) t_ k_) ?_
    show own_Go p e below _ T19 (mkF m 180 #[.val (.int (5 : Int32)), .val (.ref b)] [(.int x4), (.int (4 : Int32)), (.ref nb2), (.ref nb2), (.ref nb1), (.ref nb1)])
    obtain ⟨cl23, Ar23, q23, S23, N23', H23, G23⟩ := id V19
    have hin23 : ¬ ((4 : Int32) < 0 ∨ cl23.slots.size ≤ ((4 : Int32)).toNatClampNeg) := inb_of S23 ⟨by decide, by decide⟩
    obtain ⟨T23, h23, X23, e23, W23, st23⟩ := stC X19 hx hZ e19 Ar23 (j := (4 : Int32)) hin23 (g := (mkF m 180 #[.val (.int (5 : Int32)), .val (.ref b)] [(.int x4), (.int (4 : Int32)), (.ref nb2), (.ref nb2), (.ref nb1), (.ref nb1)])) rfl rfl (hb hby d3_180)
    have V23 : Arv Z h23 nb2 k2 .char (5 : Int32) [(.int (nar .char x0)), (.int (nar .char x1)), (.int (nar .char x2)), (.int (nar .char x3)), (.int (nar .char x4))] (.int (0 : Int32)) := Arv.set Ar23 q23 S23 N23' H23 G23 (fits_nar_char _) W23 4 rfl (Nat.le_of_ble_eq_true rfl)
    refine own_st st23 ?_
    have f24 := (Safe.wr W19 Sw19 (own_Bk.ch B15) f20)
    have Sw23 := f24
    have B23 := own_Bk.wr W23 Sw23 B19
    have N23 := Fr.snoc X23 N19 g_nb2
    have K23 : Keep h0 h23 [] := K19.wr W23 (Or.inr sz_nb2)
    show own_Go p e below _ T23 (mkF m 181 #[.val (.int (5 : Int32)), .val (.ref b)] [(.ref nb2), (.ref nb1), (.ref nb1)])
    have hp25 : ∀ c ∈ ([(nar .char x0), (nar .char x1), (nar .char x2), (nar .char x3), (nar .char x4)] : List Int32), ¬ c < 0 ∧ ¬ (255 : Int32) < c := (own_lcons (own_LLN hL0) (own_lcons (own_LLN hL1) (own_lcons (own_LLN hL2) (own_lcons (own_LLN hL3) (own_lcons (own_LLN hL4) own_lnil)))))
    have f26 := (Exa.ext E2 A1)
    have f27 := (Exa.wr W6 f26)
    have f28 := (Exa.wr W10 f27)
    have f29 := (Exa.wr W15 f28)
    have f30 := (Exa.wr W19 f29)
    have f31 := (Exa.wr W23 f30)
    have f32 := (Fld.ext E2 F1_value)
    have ne33 : nb1 ≠ nb2 := (Nat.ne_of_lt (Nat.lt_of_lt_of_le A1.lt (Nat.le_of_eq g2.symm)))
    have f34 := (Fld.other W6 f32 (Or.inl ne33))
    have f35 := (Fld.other W10 f34 (Or.inl ne33))
    have f36 := (Fld.other W15 f35 (Or.inl ne33))
    have f37 := (Fld.other W19 f36 (Or.inl ne33))
    have f38 := (Fld.other W23 f37 (Or.inl ne33))
    have f39 := (Fld.ext E2 F1_coder)
    have f40 := (Fld.other W6 f39 (Or.inl ne33))
    have f41 := (Fld.other W10 f40 (Or.inl ne33))
    have f42 := (Fld.other W15 f41 (Or.inl ne33))
    have f43 := (Fld.other W19 f42 (Or.inl ne33))
    have f44 := (Fld.other W23 f43 (Or.inl ne33))
    have f45 := (O0.ext E1)
    have f46 := (f45.ext E2)
    have f47 := (f46.wr W6 g_nb2)
    have f48 := (f47.wr W10 g_nb2)
    have f49 := (f48.wr W15 g_nb2)
    have f50 := (f49.wr W19 g_nb2)
    have f51 := (f50.wr W23 g_nb2)
    refine own_callN X23 hx (y := (⟨"java/lang/String", "<init>", "([C)V"⟩ : MethodName)) rfl hown (mvT hZ (hw _ (List.mem_of_getElem? (i := 10) rfl))) (mvT hZ (hw _ (List.mem_of_getElem? (i := 11) rfl))) (mvT hZ (hw _ (List.mem_of_getElem? (i := 12) rfl))) (by decide) (StrChars.Road.backV (W := 1) hZ (own_words hw) (kI := 4) (hw _ (List.mem_of_getElem? (i := 8) rfl)) (cs := ([(nar .char x0), (nar .char x1), (nar .char x2), (nar .char x3), (nar .char x4)] : List Int32)) (bs := ([(nar .char x0), (nar .char x1), (nar .char x2), (nar .char x3), (nar .char x4)] : List Int32).map (fun c => c.toInt8.toInt32)) (n := 5) g_nb1 (Nat.le_trans Z0 K23.1) f31 f38 f44 V23 (Sta.ext f51.2 SC) hCS rfl rfl (by decide) (by decide) hp25 rfl (by decide) (by decide)) (a := nb1) (g := (mkF m 181 #[.val (.int (5 : Int32)), .val (.ref b)] [(.ref nb2), (.ref nb1), (.ref nb1)])) rfl (by rw [hml]; rfl) (argsL := [(.ref nb2)]) (rest := [(.ref nb1)]) (lenOf pd_1 rfl) rfl (by show 2 * 0 + _ ≤ _; exact Nat.le_of_eq rfl) (hb hby d3_181) rfl e23 (by decide) (by decide) ?_
    rintro v25 T25 L25 X25 ⟨rfl, Nq25, Kq25, Eq25, Cq25, t25, kb25, g_t25, gt25, nt25, Vq25, Aq25⟩
    have sz_t25 : h0.size ≤ t25 := Nat.le_trans K23.1 gt25
    have N25 := Fr.app N23 Nq25
    have K25 : Keep h0 T25.heap [] := K23.trans Kq25 (allS (Or.inr sz_nb1) all0)
    have f52 := (Safe.ext E2 (own_Bk.ch B1) Sf1)
    have f53 := (Safe.wr W6 Sw6 (own_Bk.ch B2) f52)
    have f54 := (Safe.wr W10 Sw10 (own_Bk.ch B6) f53)
    have f55 := (Safe.wr W15 Sw15 (own_Bk.ch B10) f54)
    have f56 := (Safe.wr W19 Sw19 (own_Bk.ch B15) f55)
    have f57 := (Safe.wr W23 Sw23 (own_Bk.ch B19) f56)
    have B25 := own_Bk.keep Kq25 (sfS f57 sf0) B23
    show own_Go p e below _ T25 (mkF m 184 #[.val (.int (5 : Int32)), .val (.ref b)] [(.ref nb1)])
    have ecs : own_str (5 : Int32) [x0, x1, x2, x3, x4, x5, x6, x7] = ([(nar .char x0), (nar .char x1), (nar .char x2), (nar .char x3), (nar .char x4)] : List Int32) := by simp [own_str, own_LN hL0, own_LN hL1, own_LN hL2, own_LN hL3, own_LN hL4, own_LN hL5, own_LN hL6, own_LN hL7]
    refine own_retAS X25 hx hlk hZ hEL rfl hh B25 Bd.returns rfl rfl (hb hby d3_184) ?_ (by decide) (by decide)
    show QM Z (own_str (5 : Int32) [x0, x1, x2, x3, x4, x5, x6, x7]) h0 n0 _ T25.heap _
    exact ⟨nb1, t25, kb25, rfl, N25, K25, sz_nb1, g_nb1, nt25, Eq25, Cq25, Vq25, by rw [ecs]; exact Aq25, by rw [ecs]; exact hp25⟩
  · show own_Go p e below _ s₁ (mkF m 0 #[.val (.int (6 : Int32)), .val (.ref b)] [])
    refine own_st (fun t_ k_ => XS.iloadN X0.here hx rfl (hb hby d3_0) rfl k_) ?_
    show own_Go p e below _ s₁ (mkF m 1 #[.val (.int (6 : Int32)), .val (.ref b)] [(.int (6 : Int32))])
    refine own_st (fun t_ k_ => XS.ifYes X0.here hx rfl (pc0 := 1) (pc' := 15) rfl (hb hby d3_1) rfl (by decide) (by decide) (by decide) k_) ?_
    show own_Go p e below _ s₁ (mkF m 15 #[.val (.int (6 : Int32)), .val (.ref b)] [])
    refine own_st (fun t_ k_ => XS.iloadN X0.here hx rfl (hb hby d3_15) rfl k_) ?_
    show own_Go p e below _ s₁ (mkF m 16 #[.val (.int (6 : Int32)), .val (.ref b)] [(.int (6 : Int32))])
    refine own_st (fun t_ k_ => XS.iconst X0.here hx rfl (hb hby d3_16) k_) ?_
    show own_Go p e below _ s₁ (mkF m 17 #[.val (.int (6 : Int32)), .val (.ref b)] [(.int (1 : Int32)), (.int (6 : Int32))])
    refine own_st (fun t_ k_ => XS.icmpYes X0.here hx rfl (pc0 := 17) (pc' := 37) rfl (hb hby d3_17) rfl (by decide) (by decide) (by decide) k_) ?_
    show own_Go p e below _ s₁ (mkF m 37 #[.val (.int (6 : Int32)), .val (.ref b)] [])
    refine own_st (fun t_ k_ => XS.iloadN X0.here hx rfl (hb hby d3_37) rfl k_) ?_
    show own_Go p e below _ s₁ (mkF m 38 #[.val (.int (6 : Int32)), .val (.ref b)] [(.int (6 : Int32))])
    refine own_st (fun t_ k_ => XS.iconst X0.here hx rfl (hb hby d3_38) k_) ?_
    show own_Go p e below _ s₁ (mkF m 39 #[.val (.int (6 : Int32)), .val (.ref b)] [(.int (2 : Int32)), (.int (6 : Int32))])
    refine own_st (fun t_ k_ => XS.icmpYes X0.here hx rfl (pc0 := 39) (pc' := 65) rfl (hb hby d3_39) rfl (by decide) (by decide) (by decide) k_) ?_
    show own_Go p e below _ s₁ (mkF m 65 #[.val (.int (6 : Int32)), .val (.ref b)] [])
    refine own_st (fun t_ k_ => XS.iloadN X0.here hx rfl (hb hby d3_65) rfl k_) ?_
    show own_Go p e below _ s₁ (mkF m 66 #[.val (.int (6 : Int32)), .val (.ref b)] [(.int (6 : Int32))])
    refine own_st (fun t_ k_ => XS.iconst X0.here hx rfl (hb hby d3_66) k_) ?_
    show own_Go p e below _ s₁ (mkF m 67 #[.val (.int (6 : Int32)), .val (.ref b)] [(.int (3 : Int32)), (.int (6 : Int32))])
    refine own_st (fun t_ k_ => XS.icmpYes X0.here hx rfl (pc0 := 67) (pc' := 99) rfl (hb hby d3_67) rfl (by decide) (by decide) (by decide) k_) ?_
    show own_Go p e below _ s₁ (mkF m 99 #[.val (.int (6 : Int32)), .val (.ref b)] [])
    refine own_st (fun t_ k_ => XS.iloadN X0.here hx rfl (hb hby d3_99) rfl k_) ?_
    show own_Go p e below _ s₁ (mkF m 100 #[.val (.int (6 : Int32)), .val (.ref b)] [(.int (6 : Int32))])
    refine own_st (fun t_ k_ => XS.iconst X0.here hx rfl (hb hby d3_100) k_) ?_
    show own_Go p e below _ s₁ (mkF m 101 #[.val (.int (6 : Int32)), .val (.ref b)] [(.int (4 : Int32)), (.int (6 : Int32))])
    refine own_st (fun t_ k_ => XS.icmpYes X0.here hx rfl (pc0 := 101) (pc' := 139) rfl (hb hby d3_101) rfl (by decide) (by decide) (by decide) k_) ?_
    show own_Go p e below _ s₁ (mkF m 139 #[.val (.int (6 : Int32)), .val (.ref b)] [])
    refine own_st (fun t_ k_ => XS.iloadN X0.here hx rfl (hb hby d3_139) rfl k_) ?_
    show own_Go p e below _ s₁ (mkF m 140 #[.val (.int (6 : Int32)), .val (.ref b)] [(.int (6 : Int32))])
    refine own_st (fun t_ k_ => XS.iconst X0.here hx rfl (hb hby d3_140) k_) ?_
    show own_Go p e below _ s₁ (mkF m 141 #[.val (.int (6 : Int32)), .val (.ref b)] [(.int (5 : Int32)), (.int (6 : Int32))])
    refine own_st (fun t_ k_ => XS.icmpYes X0.here hx rfl (pc0 := 141) (pc' := 185) rfl (hb hby d3_141) rfl (by decide) (by decide) (by decide) k_) ?_
    show own_Go p e below _ s₁ (mkF m 185 #[.val (.int (6 : Int32)), .val (.ref b)] [])
    refine own_st (fun t_ k_ => XS.iloadN X0.here hx rfl (hb hby d3_185) rfl k_) ?_
    show own_Go p e below _ s₁ (mkF m 186 #[.val (.int (6 : Int32)), .val (.ref b)] [(.int (6 : Int32))])
    refine own_st (fun t_ k_ => XS.bipush X0.here hx rfl (hb hby d3_186) k_) ?_
    show own_Go p e below _ s₁ (mkF m 188 #[.val (.int (6 : Int32)), .val (.ref b)] [(.int (6 : Int32)), (.int (6 : Int32))])
    refine own_st (fun t_ k_ => XS.icmpNo X0.here hx rfl (hb hby d3_188) rfl (by decide) k_) ?_
    show own_Go p e below _ s₁ (mkF m 191 #[.val (.int (6 : Int32)), .val (.ref b)] [])
    obtain ⟨T1, h1, X1, e1, E1, A1, D1, cel1, st1⟩ := newO X0 hx hZ hown (hw _ (List.mem_of_getElem? (i := 7) rfl)) (hw _ (List.mem_of_getElem? (i := 8) rfl)) (hw _ (List.mem_of_getElem? (i := 9) rfl)) e0 (g := (mkF m 191 #[.val (.int (6 : Int32)), .val (.ref b)] [])) rfl (hb hby d3_191) (by decide) (by decide)
    obtain ⟨nb1, g1⟩ : ∃ z, z = h0.size := ⟨_, rfl⟩
    rw [← g1] at A1 D1 cel1 st1
    refine own_st st1 ?_
    have g_nb1 : n0 ≤ nb1 := Nat.le_trans (Nat.le_trans Z0 (Keep.refl h0 []).1) (Nat.le_of_eq g1.symm)
    have K1 : Keep h0 h1 [] := (Keep.refl h0 []).ext E1
    have sz_nb1 : h0.size ≤ nb1 := Nat.le_trans (Keep.refl h0 []).1 (Nat.le_of_eq g1.symm)
    have B1 := own_Bk.ext E1 B0
    have Sf1 := Safe.ext E1 (own_Bk.ch B0) (Safe.new (Nat.le_of_eq g1.symm))
    have F1_coder : Fld Z h1 nb1 "java/lang/String" "coder" "B" (.int (0 : Int32)) := D1 (Or.inr (hw _ (List.mem_of_getElem? (i := 33) rfl))) (ty := .byte) (by decide)
    have F1_value : Fld Z h1 nb1 "java/lang/String" "value" "[B" .null := D1 (Or.inr (hw _ (List.mem_of_getElem? (i := 35) rfl))) (ty := (.array .byte)) (by decide)
    show own_Go p e below _ T1 (mkF m 194 #[.val (.int (6 : Int32)), .val (.ref b)] [(.ref nb1)])
    refine own_st (fun t_ k_ => XS.dup X1.here hx rfl (hb hby d3_194) rfl rfl k_) ?_
    show own_Go p e below _ T1 (mkF m 195 #[.val (.int (6 : Int32)), .val (.ref b)] [(.ref nb1), (.ref nb1)])
    refine own_st (fun t_ k_ => XS.bipush X1.here hx rfl (hb hby d3_195) k_) ?_
    show own_Go p e below _ T1 (mkF m 197 #[.val (.int (6 : Int32)), .val (.ref b)] [(.int (6 : Int32)), (.ref nb1), (.ref nb1)])
    obtain ⟨T2, h2, k2, X2, e2, E2, A2, st2⟩ := newP X1 hx hZ (hw _ (List.mem_of_getElem? (i := 1) rfl)) e1 (g := (mkF m 197 #[.val (.int (6 : Int32)), .val (.ref b)] [(.int (6 : Int32)), (.ref nb1), (.ref nb1)])) rfl (hb hby d3_197) rfl (by decide) (cap := 6) (by decide) (by decide) (by decide) (by decide)
    obtain ⟨nb2, g2⟩ : ∃ z, z = h1.size := ⟨_, rfl⟩
    rw [← g2] at A2 st2
    refine own_st st2 ?_
    have g_nb2 : n0 ≤ nb2 := Nat.le_trans (Nat.le_trans Z0 K1.1) (Nat.le_of_eq g2.symm)
    have K2 : Keep h0 h2 [] := K1.ext E2
    have sz_nb2 : h0.size ≤ nb2 := Nat.le_trans K1.1 (Nat.le_of_eq g2.symm)
    have B2 := own_Bk.ext E2 B1
    have Sf2 := Safe.ext E2 (own_Bk.ch B1) (Safe.new (Nat.le_of_eq g2.symm))
    have V2 : Arv Z h2 nb2 k2 .char (6 : Int32) [(.int (0 : Int32)), (.int (0 : Int32)), (.int (0 : Int32)), (.int (0 : Int32)), (.int (0 : Int32)), (.int (0 : Int32))] (.int (0 : Int32)) := (Arv.new A2 (by decide)).pad (pad_rep [] (.int (0 : Int32)) 6)
    show own_Go p e below _ T2 (mkF m 199 #[.val (.int (6 : Int32)), .val (.ref b)] [(.ref nb2), (.ref nb1), (.ref nb1)])
    refine own_st (fun t_ k_ => XS.dup X2.here hx rfl (hb hby d3_199) rfl rfl k_) ?_
    show own_Go p e below _ T2 (mkF m 200 #[.val (.int (6 : Int32)), .val (.ref b)] [(.ref nb2), (.ref nb2), (.ref nb1), (.ref nb1)])
    refine own_st (fun t_ k_ => XS.iconst X2.here hx rfl (hb hby d3_200) k_) ?_
    show own_Go p e below _ T2 (mkF m 201 #[.val (.int (6 : Int32)), .val (.ref b)] [(.int (0 : Int32)), (.ref nb2), (.ref nb2), (.ref nb1), (.ref nb1)])
    refine own_st (fun t_ k_ => XS.aloadN X2.here hx rfl (hb hby d3_201) rfl rfl k_) ?_
    show own_Go p e below _ T2 (mkF m 202 #[.val (.int (6 : Int32)), .val (.ref b)] [(.ref b), (.int (0 : Int32)), (.ref nb2), (.ref nb2), (.ref nb1), (.ref nb1)])
    refine own_st (fun t_ k_ => XS.iconst X2.here hx rfl (hb hby d3_202) k_) ?_
    show own_Go p e below _ T2 (mkF m 203 #[.val (.int (6 : Int32)), .val (.ref b)] [(.int (0 : Int32)), (.ref b), (.int (0 : Int32)), (.ref nb2), (.ref nb2), (.ref nb1), (.ref nb1)])
    have f4 := (Ab.ext E1)
    have f5 := (f4.ext E2)
    obtain ⟨cl3, Ar3, q3, S3, N3', H3, G3⟩ := id f5
    have hin3 : ¬ ((0 : Int32) < 0 ∨ cl3.slots.size ≤ ((0 : Int32)).toNatClampNeg) := inb_of S3 ⟨by decide, by decide⟩
    refine own_st (fun t_ k_ => X2.caload hx (j := (0 : Int32)) (v := (.int x0)) (by rw [e2]; exact Ar3.1) (State.isArrayOf_alike hZ.alike Ar3.2.1) Ar3.2.2 hin3 (Has.at H3 hin3 rfl) (g := (mkF m 203 #[.val (.int (6 : Int32)), .val (.ref b)] [(.int (0 : Int32)), (.ref b), (.int (0 : Int32)), (.ref nb2), (.ref nb2), (.ref nb1), (.ref nb1)])) rfl rfl (hb hby d3_203) t_ k_) ?_
    show own_Go p e below _ T2 (mkF m 204 #[.val (.int (6 : Int32)), .val (.ref b)] [(.int x0), (.int (0 : Int32)), (.ref nb2), (.ref nb2), (.ref nb1), (.ref nb1)])
    obtain ⟨cl6, Ar6, q6, S6, N6', H6, G6⟩ := id V2
    have hin6 : ¬ ((0 : Int32) < 0 ∨ cl6.slots.size ≤ ((0 : Int32)).toNatClampNeg) := inb_of S6 ⟨by decide, by decide⟩
    obtain ⟨T6, h6, X6, e6, W6, st6⟩ := stC X2 hx hZ e2 Ar6 (j := (0 : Int32)) hin6 (g := (mkF m 204 #[.val (.int (6 : Int32)), .val (.ref b)] [(.int x0), (.int (0 : Int32)), (.ref nb2), (.ref nb2), (.ref nb1), (.ref nb1)])) rfl rfl (hb hby d3_204)
    have V6 : Arv Z h6 nb2 k2 .char (6 : Int32) [(.int (nar .char x0)), (.int (0 : Int32)), (.int (0 : Int32)), (.int (0 : Int32)), (.int (0 : Int32)), (.int (0 : Int32))] (.int (0 : Int32)) := Arv.set Ar6 q6 S6 N6' H6 G6 (fits_nar_char _) W6 0 rfl (Nat.le_of_ble_eq_true rfl)
    refine own_st st6 ?_
    have Sw6 := Sf2
    have B6 := own_Bk.wr W6 Sw6 B2
    have N6 := Fr.snoc X6 N0 g_nb2
    have K6 : Keep h0 h6 [] := K2.wr W6 (Or.inr sz_nb2)
    show own_Go p e below _ T6 (mkF m 205 #[.val (.int (6 : Int32)), .val (.ref b)] [(.ref nb2), (.ref nb1), (.ref nb1)])
    refine own_st (fun t_ k_ => XS.dup X6.here hx rfl (hb hby d3_205) rfl rfl k_) ?_
    show own_Go p e below _ T6 (mkF m 206 #[.val (.int (6 : Int32)), .val (.ref b)] [(.ref nb2), (.ref nb2), (.ref nb1), (.ref nb1)])
    refine own_st (fun t_ k_ => XS.iconst X6.here hx rfl (hb hby d3_206) k_) ?_
    show own_Go p e below _ T6 (mkF m 207 #[.val (.int (6 : Int32)), .val (.ref b)] [(.int (1 : Int32)), (.ref nb2), (.ref nb2), (.ref nb1), (.ref nb1)])
    refine own_st (fun t_ k_ => XS.aloadN X6.here hx rfl (hb hby d3_207) rfl rfl k_) ?_
    show own_Go p e below _ T6 (mkF m 208 #[.val (.int (6 : Int32)), .val (.ref b)] [(.ref b), (.int (1 : Int32)), (.ref nb2), (.ref nb2), (.ref nb1), (.ref nb1)])
    refine own_st (fun t_ k_ => XS.iconst X6.here hx rfl (hb hby d3_208) k_) ?_
    show own_Go p e below _ T6 (mkF m 209 #[.val (.int (6 : Int32)), .val (.ref b)] [(.int (1 : Int32)), (.ref b), (.int (1 : Int32)), (.ref nb2), (.ref nb2), (.ref nb1), (.ref nb1)])
    have ne8 : b ≠ nb2 := (Nat.ne_of_lt (Nat.lt_of_lt_of_le f4.lt (Nat.le_of_eq g2.symm)))
    have f9 := (f5.other W6 ne8)
    obtain ⟨cl7, Ar7, q7, S7, N7', H7, G7⟩ := id f9
    have hin7 : ¬ ((1 : Int32) < 0 ∨ cl7.slots.size ≤ ((1 : Int32)).toNatClampNeg) := inb_of S7 ⟨by decide, by decide⟩
    refine own_st (fun t_ k_ => X6.caload hx (j := (1 : Int32)) (v := (.int x1)) (by rw [e6]; exact Ar7.1) (State.isArrayOf_alike hZ.alike Ar7.2.1) Ar7.2.2 hin7 (Has.at H7 hin7 rfl) (g := (mkF m 209 #[.val (.int (6 : Int32)), .val (.ref b)] [(.int (1 : Int32)), (.ref b), (.int (1 : Int32)), (.ref nb2), (.ref nb2), (.ref nb1), (.ref nb1)])) rfl rfl (hb hby d3_209) t_ k_) ?_
    show own_Go p e below _ T6 (mkF m 210 #[.val (.int (6 : Int32)), .val (.ref b)] [(.int x1), (.int (1 : Int32)), (.ref nb2), (.ref nb2), (.ref nb1), (.ref nb1)])
    obtain ⟨cl10, Ar10, q10, S10, N10', H10, G10⟩ := id V6
    have hin10 : ¬ ((1 : Int32) < 0 ∨ cl10.slots.size ≤ ((1 : Int32)).toNatClampNeg) := inb_of S10 ⟨by decide, by decide⟩
    obtain ⟨T10, h10, X10, e10, W10, st10⟩ := stC X6 hx hZ e6 Ar10 (j := (1 : Int32)) hin10 (g := (mkF m 210 #[.val (.int (6 : Int32)), .val (.ref b)] [(.int x1), (.int (1 : Int32)), (.ref nb2), (.ref nb2), (.ref nb1), (.ref nb1)])) rfl rfl (hb hby d3_210)
    have V10 : Arv Z h10 nb2 k2 .char (6 : Int32) [(.int (nar .char x0)), (.int (nar .char x1)), (.int (0 : Int32)), (.int (0 : Int32)), (.int (0 : Int32)), (.int (0 : Int32))] (.int (0 : Int32)) := Arv.set Ar10 q10 S10 N10' H10 G10 (fits_nar_char _) W10 1 rfl (Nat.le_of_ble_eq_true rfl)
    refine own_st st10 ?_
    have f11 := (Safe.wr W6 Sw6 (own_Bk.ch B2) Sf2)
    have Sw10 := f11
    have B10 := own_Bk.wr W10 Sw10 B6
    have N10 := Fr.snoc X10 N6 g_nb2
    have K10 : Keep h0 h10 [] := K6.wr W10 (Or.inr sz_nb2)
    show own_Go p e below _ T10 (mkF m 211 #[.val (.int (6 : Int32)), .val (.ref b)] [(.ref nb2), (.ref nb1), (.ref nb1)])
    refine own_st (fun t_ k_ => XS.dup X10.here hx rfl (hb hby d3_211) rfl rfl k_) ?_
    show own_Go p e below _ T10 (mkF m 212 #[.val (.int (6 : Int32)), .val (.ref b)] [(.ref nb2), (.ref nb2), (.ref nb1), (.ref nb1)])
    refine own_st (fun t_ k_ => XS.iconst X10.here hx rfl (hb hby d3_212) k_) ?_
    show own_Go p e below _ T10 (mkF m 213 #[.val (.int (6 : Int32)), .val (.ref b)] [(.int (2 : Int32)), (.ref nb2), (.ref nb2), (.ref nb1), (.ref nb1)])
    refine own_st (fun t_ k_ => XS.aloadN X10.here hx rfl (hb hby d3_213) rfl rfl k_) ?_
    show own_Go p e below _ T10 (mkF m 214 #[.val (.int (6 : Int32)), .val (.ref b)] [(.ref b), (.int (2 : Int32)), (.ref nb2), (.ref nb2), (.ref nb1), (.ref nb1)])
    refine own_st (fun t_ k_ => XS.iconst X10.here hx rfl (hb hby d3_214) k_) ?_
    show own_Go p e below _ T10 (mkF m 215 #[.val (.int (6 : Int32)), .val (.ref b)] [(.int (2 : Int32)), (.ref b), (.int (2 : Int32)), (.ref nb2), (.ref nb2), (.ref nb1), (.ref nb1)])
    have f13 := (f5.other W6 ne8)
    have f14 := (f13.other W10 ne8)
    obtain ⟨cl12, Ar12, q12, S12, N12', H12, G12⟩ := id f14
    have hin12 : ¬ ((2 : Int32) < 0 ∨ cl12.slots.size ≤ ((2 : Int32)).toNatClampNeg) := inb_of S12 ⟨by decide, by decide⟩
    refine own_st (fun t_ k_ => X10.caload hx (j := (2 : Int32)) (v := (.int x2)) (by rw [e10]; exact Ar12.1) (State.isArrayOf_alike hZ.alike Ar12.2.1) Ar12.2.2 hin12 (Has.at H12 hin12 rfl) (g := (mkF m 215 #[.val (.int (6 : Int32)), .val (.ref b)] [(.int (2 : Int32)), (.ref b), (.int (2 : Int32)), (.ref nb2), (.ref nb2), (.ref nb1), (.ref nb1)])) rfl rfl (hb hby d3_215) t_ k_) ?_
    show own_Go p e below _ T10 (mkF m 216 #[.val (.int (6 : Int32)), .val (.ref b)] [(.int x2), (.int (2 : Int32)), (.ref nb2), (.ref nb2), (.ref nb1), (.ref nb1)])
    obtain ⟨cl15, Ar15, q15, S15, N15', H15, G15⟩ := id V10
    have hin15 : ¬ ((2 : Int32) < 0 ∨ cl15.slots.size ≤ ((2 : Int32)).toNatClampNeg) := inb_of S15 ⟨by decide, by decide⟩
    obtain ⟨T15, h15, X15, e15, W15, st15⟩ := stC X10 hx hZ e10 Ar15 (j := (2 : Int32)) hin15 (g := (mkF m 216 #[.val (.int (6 : Int32)), .val (.ref b)] [(.int x2), (.int (2 : Int32)), (.ref nb2), (.ref nb2), (.ref nb1), (.ref nb1)])) rfl rfl (hb hby d3_216)
    have V15 : Arv Z h15 nb2 k2 .char (6 : Int32) [(.int (nar .char x0)), (.int (nar .char x1)), (.int (nar .char x2)), (.int (0 : Int32)), (.int (0 : Int32)), (.int (0 : Int32))] (.int (0 : Int32)) := Arv.set Ar15 q15 S15 N15' H15 G15 (fits_nar_char _) W15 2 rfl (Nat.le_of_ble_eq_true rfl)
    refine own_st st15 ?_
    have f16 := (Safe.wr W10 Sw10 (own_Bk.ch B6) f11)
    have Sw15 := f16
    have B15 := own_Bk.wr W15 Sw15 B10
    have N15 := Fr.snoc X15 N10 g_nb2
    have K15 : Keep h0 h15 [] := K10.wr W15 (Or.inr sz_nb2)
    show own_Go p e below _ T15 (mkF m 217 #[.val (.int (6 : Int32)), .val (.ref b)] [(.ref nb2), (.ref nb1), (.ref nb1)])
    refine own_st (fun t_ k_ => XS.dup X15.here hx rfl (hb hby d3_217) rfl rfl k_) ?_
    show own_Go p e below _ T15 (mkF m 218 #[.val (.int (6 : Int32)), .val (.ref b)] [(.ref nb2), (.ref nb2), (.ref nb1), (.ref nb1)])
    refine own_st (fun t_ k_ => XS.iconst X15.here hx rfl (hb hby d3_218) k_) ?_
    show own_Go p e below _ T15 (mkF m 219 #[.val (.int (6 : Int32)), .val (.ref b)] [(.int (3 : Int32)), (.ref nb2), (.ref nb2), (.ref nb1), (.ref nb1)])
    refine own_st (fun t_ k_ => XS.aloadN X15.here hx rfl (hb hby d3_219) rfl rfl k_) ?_
    show own_Go p e below _ T15 (mkF m 220 #[.val (.int (6 : Int32)), .val (.ref b)] [(.ref b), (.int (3 : Int32)), (.ref nb2), (.ref nb2), (.ref nb1), (.ref nb1)])
    refine own_st (fun t_ k_ => XS.iconst X15.here hx rfl (hb hby d3_220) k_) ?_
    show own_Go p e below _ T15 (mkF m 221 #[.val (.int (6 : Int32)), .val (.ref b)] [(.int (3 : Int32)), (.ref b), (.int (3 : Int32)), (.ref nb2), (.ref nb2), (.ref nb1), (.ref nb1)])
    have f18 := (f14.other W15 ne8)
    obtain ⟨cl17, Ar17, q17, S17, N17', H17, G17⟩ := id f18
    have hin17 : ¬ ((3 : Int32) < 0 ∨ cl17.slots.size ≤ ((3 : Int32)).toNatClampNeg) := inb_of S17 ⟨by decide, by decide⟩
    refine own_st (fun t_ k_ => X15.caload hx (j := (3 : Int32)) (v := (.int x3)) (by rw [e15]; exact Ar17.1) (State.isArrayOf_alike hZ.alike Ar17.2.1) Ar17.2.2 hin17 (Has.at H17 hin17 rfl) (g := (mkF m 221 #[.val (.int (6 : Int32)), .val (.ref b)] [(.int (3 : Int32)), (.ref b), (.int (3 : Int32)), (.ref nb2), (.ref nb2), (.ref nb1), (.ref nb1)])) rfl rfl (hb hby d3_221) t_ k_) ?_
    show own_Go p e below _ T15 (mkF m 222 #[.val (.int (6 : Int32)), .val (.ref b)] [(.int x3), (.int (3 : Int32)), (.ref nb2), (.ref nb2), (.ref nb1), (.ref nb1)])
    obtain ⟨cl19, Ar19, q19, S19, N19', H19, G19⟩ := id V15
    have hin19 : ¬ ((3 : Int32) < 0 ∨ cl19.slots.size ≤ ((3 : Int32)).toNatClampNeg) := inb_of S19 ⟨by decide, by decide⟩
    obtain ⟨T19, h19, X19, e19, W19, st19⟩ := stC X15 hx hZ e15 Ar19 (j := (3 : Int32)) hin19 (g := (mkF m 222 #[.val (.int (6 : Int32)), .val (.ref b)] [(.int x3), (.int (3 : Int32)), (.ref nb2), (.ref nb2), (.ref nb1), (.ref nb1)])) rfl rfl (hb hby d3_222)
    have V19 : Arv Z h19 nb2 k2 .char (6 : Int32) [(.int (nar .char x0)), (.int (nar .char x1)), (.int (nar .char x2)), (.int (nar .char x3)), (.int (0 : Int32)), (.int (0 : Int32))] (.int (0 : Int32)) := Arv.set Ar19 q19 S19 N19' H19 G19 (fits_nar_char _) W19 3 rfl (Nat.le_of_ble_eq_true rfl)
    refine own_st st19 ?_
    have f20 := (Safe.wr W15 Sw15 (own_Bk.ch B10) f16)
    have Sw19 := f20
    have B19 := own_Bk.wr W19 Sw19 B15
    have N19 := Fr.snoc X19 N15 g_nb2
    have K19 : Keep h0 h19 [] := K15.wr W19 (Or.inr sz_nb2)
    show own_Go p e below _ T19 (mkF m 223 #[.val (.int (6 : Int32)), .val (.ref b)] [(.ref nb2), (.ref nb1), (.ref nb1)])
    refine own_st (fun t_ k_ => XS.dup X19.here hx rfl (hb hby d3_223) rfl rfl k_) ?_
    show own_Go p e below _ T19 (mkF m 224 #[.val (.int (6 : Int32)), .val (.ref b)] [(.ref nb2), (.ref nb2), (.ref nb1), (.ref nb1)])
    refine own_st (fun t_ k_ => XS.iconst X19.here hx rfl (hb hby d3_224) k_) ?_
    show own_Go p e below _ T19 (mkF m 225 #[.val (.int (6 : Int32)), .val (.ref b)] [(.int (4 : Int32)), (.ref nb2), (.ref nb2), (.ref nb1), (.ref nb1)])
    refine own_st (fun t_ k_ => XS.aloadN X19.here hx rfl (hb hby d3_225) rfl rfl k_) ?_
    show own_Go p e below _ T19 (mkF m 226 #[.val (.int (6 : Int32)), .val (.ref b)] [(.ref b), (.int (4 : Int32)), (.ref nb2), (.ref nb2), (.ref nb1), (.ref nb1)])
    refine own_st (fun t_ k_ => XS.iconst X19.here hx rfl (hb hby d3_226) k_) ?_
    show own_Go p e below _ T19 (mkF m 227 #[.val (.int (6 : Int32)), .val (.ref b)] [(.int (4 : Int32)), (.ref b), (.int (4 : Int32)), (.ref nb2), (.ref nb2), (.ref nb1), (.ref nb1)])
    have f22 := (f18.other W19 ne8)
    obtain ⟨cl21, Ar21, q21, S21, N21', H21, G21⟩ := id f22
    have hin21 : ¬ ((4 : Int32) < 0 ∨ cl21.slots.size ≤ ((4 : Int32)).toNatClampNeg) := inb_of S21 ⟨by decide, by decide⟩
    refine own_st (fun t_ k_ => X19.caload hx (j := (4 : Int32)) (v := (.int x4)) (by rw [e19]; exact Ar21.1) (State.isArrayOf_alike hZ.alike Ar21.2.1) Ar21.2.2 hin21 (Has.at H21 hin21 rfl) (g := (mkF m 227 #[.val (.int (6 : Int32)), .val (.ref b)] [(.int (4 : Int32)), (.ref b), (.int (4 : Int32)), (.ref nb2), (.ref nb2), (.ref nb1), (.ref nb1)])) rfl rfl (hb hby d3_227) t_ k_) ?_
    show own_Go p e below _ T19 (mkF m 228 #[.val (.int (6 : Int32)), .val (.ref b)] [(.int x4), (.int (4 : Int32)), (.ref nb2), (.ref nb2), (.ref nb1), (.ref nb1)])
    obtain ⟨cl23, Ar23, q23, S23, N23', H23, G23⟩ := id V19
    have hin23 : ¬ ((4 : Int32) < 0 ∨ cl23.slots.size ≤ ((4 : Int32)).toNatClampNeg) := inb_of S23 ⟨by decide, by decide⟩
    obtain ⟨T23, h23, X23, e23, W23, st23⟩ := stC X19 hx hZ e19 Ar23 (j := (4 : Int32)) hin23 (g := (mkF m 228 #[.val (.int (6 : Int32)), .val (.ref b)] [(.int x4), (.int (4 : Int32)), (.ref nb2), (.ref nb2), (.ref nb1), (.ref nb1)])) rfl rfl (hb hby d3_228)
    have V23 : Arv Z h23 nb2 k2 .char (6 : Int32) [(.int (nar .char x0)), (.int (nar .char x1)), (.int (nar .char x2)), (.int (nar .char x3)), (.int (nar .char x4)), (.int (0 : Int32))] (.int (0 : Int32)) := Arv.set Ar23 q23 S23 N23' H23 G23 (fits_nar_char _) W23 4 rfl (Nat.le_of_ble_eq_true rfl)
    refine own_st st23 ?_
    have f24 := (Safe.wr W19 Sw19 (own_Bk.ch B15) f20)
    have Sw23 := f24
    have B23 := own_Bk.wr W23 Sw23 B19
    have N23 := Fr.snoc X23 N19 g_nb2
    have K23 : Keep h0 h23 [] := K19.wr W23 (Or.inr sz_nb2)
    show own_Go p e below _ T23 (mkF m 229 #[.val (.int (6 : Int32)), .val (.ref b)] [(.ref nb2), (.ref nb1), (.ref nb1)])
    refine own_st (fun t_ k_ => XS.dup X23.here hx rfl (hb hby d3_229) rfl rfl k_) ?_
    show own_Go p e below _ T23 (mkF m 230 #[.val (.int (6 : Int32)), .val (.ref b)] [(.ref nb2), (.ref nb2), (.ref nb1), (.ref nb1)])
    refine own_st (fun t_ k_ => XS.iconst X23.here hx rfl (hb hby d3_230) k_) ?_
    show own_Go p e below _ T23 (mkF m 231 #[.val (.int (6 : Int32)), .val (.ref b)] [(.int (5 : Int32)), (.ref nb2), (.ref nb2), (.ref nb1), (.ref nb1)])
    refine own_st (fun t_ k_ => XS.aloadN X23.here hx rfl (hb hby d3_231) rfl rfl k_) ?_
    show own_Go p e below _ T23 (mkF m 232 #[.val (.int (6 : Int32)), .val (.ref b)] [(.ref b), (.int (5 : Int32)), (.ref nb2), (.ref nb2), (.ref nb1), (.ref nb1)])
    refine own_st (fun t_ k_ => XS.iconst X23.here hx rfl (hb hby d3_232) k_) ?_
    show own_Go p e below _ T23 (mkF m 233 #[.val (.int (6 : Int32)), .val (.ref b)] [(.int (5 : Int32)), (.ref b), (.int (5 : Int32)), (.ref nb2), (.ref nb2), (.ref nb1), (.ref nb1)])
    have f26 := (f22.other W23 ne8)
    obtain ⟨cl25, Ar25, q25, S25, N25', H25, G25⟩ := id f26
    have hin25 : ¬ ((5 : Int32) < 0 ∨ cl25.slots.size ≤ ((5 : Int32)).toNatClampNeg) := inb_of S25 ⟨by decide, by decide⟩
    refine own_st (fun t_ k_ => X23.caload hx (j := (5 : Int32)) (v := (.int x5)) (by rw [e23]; exact Ar25.1) (State.isArrayOf_alike hZ.alike Ar25.2.1) Ar25.2.2 hin25 (Has.at H25 hin25 rfl) (g := (mkF m 233 #[.val (.int (6 : Int32)), .val (.ref b)] [(.int (5 : Int32)), (.ref b), (.int (5 : Int32)), (.ref nb2), (.ref nb2), (.ref nb1), (.ref nb1)])) rfl rfl (hb hby d3_233) t_ k_) ?_
    show own_Go p e below _ T23 (mkF m 234 #[.val (.int (6 : Int32)), .val (.ref b)] [(.int x5), (.int (5 : Int32)), (.ref nb2), (.ref nb2), (.ref nb1), (.ref nb1)])
    obtain ⟨cl27, Ar27, q27, S27, N27', H27, G27⟩ := id V23
    have hin27 : ¬ ((5 : Int32) < 0 ∨ cl27.slots.size ≤ ((5 : Int32)).toNatClampNeg) := inb_of S27 ⟨by decide, by decide⟩
    obtain ⟨T27, h27, X27, e27, W27, st27⟩ := stC X23 hx hZ e23 Ar27 (j := (5 : Int32)) hin27 (g := (mkF m 234 #[.val (.int (6 : Int32)), .val (.ref b)] [(.int x5), (.int (5 : Int32)), (.ref nb2), (.ref nb2), (.ref nb1), (.ref nb1)])) rfl rfl (hb hby d3_234)
    have V27 : Arv Z h27 nb2 k2 .char (6 : Int32) [(.int (nar .char x0)), (.int (nar .char x1)), (.int (nar .char x2)), (.int (nar .char x3)), (.int (nar .char x4)), (.int (nar .char x5))] (.int (0 : Int32)) := Arv.set Ar27 q27 S27 N27' H27 G27 (fits_nar_char _) W27 5 rfl (Nat.le_of_ble_eq_true rfl)
    refine own_st st27 ?_
    have f28 := (Safe.wr W23 Sw23 (own_Bk.ch B19) f24)
    have Sw27 := f28
    have B27 := own_Bk.wr W27 Sw27 B23
    have N27 := Fr.snoc X27 N23 g_nb2
    have K27 : Keep h0 h27 [] := K23.wr W27 (Or.inr sz_nb2)
    show own_Go p e below _ T27 (mkF m 235 #[.val (.int (6 : Int32)), .val (.ref b)] [(.ref nb2), (.ref nb1), (.ref nb1)])
    have hp29 : ∀ c ∈ ([(nar .char x0), (nar .char x1), (nar .char x2), (nar .char x3), (nar .char x4), (nar .char x5)] : List Int32), ¬ c < 0 ∧ ¬ (255 : Int32) < c := (own_lcons (own_LLN hL0) (own_lcons (own_LLN hL1) (own_lcons (own_LLN hL2) (own_lcons (own_LLN hL3) (own_lcons (own_LLN hL4) (own_lcons (own_LLN hL5) own_lnil))))))
    have f30 := (Exa.ext E2 A1)
    have f31 := (Exa.wr W6 f30)
    have f32 := (Exa.wr W10 f31)
    have f33 := (Exa.wr W15 f32)
    have f34 := (Exa.wr W19 f33)
    have f35 := (Exa.wr W23 f34)
    have f36 := (Exa.wr W27 f35)
    have f37 := (Fld.ext E2 F1_value)
    have ne38 : nb1 ≠ nb2 := (Nat.ne_of_lt (Nat.lt_of_lt_of_le A1.lt (Nat.le_of_eq g2.symm)))
    have f39 := (Fld.other W6 f37 (Or.inl ne38))
    have f40 := (Fld.other W10 f39 (Or.inl ne38))
    have f41 := (Fld.other W15 f40 (Or.inl ne38))
    have f42 := (Fld.other W19 f41 (Or.inl ne38))
    have f43 := (Fld.other W23 f42 (Or.inl ne38))
    have f44 := (Fld.other W27 f43 (Or.inl ne38))
    have f45 := (Fld.ext E2 F1_coder)
    have f46 := (Fld.other W6 f45 (Or.inl ne38))
    have f47 := (Fld.other W10 f46 (Or.inl ne38))
    have f48 := (Fld.other W15 f47 (Or.inl ne38))
    have f49 := (Fld.other W19 f48 (Or.inl ne38))
    have f50 := (Fld.other W23 f49 (Or.inl ne38))
    have f51 := (Fld.other W27 f50 (Or.inl ne38))
    have f52 := (O0.ext E1)
    have f53 := (f52.ext E2)
    have f54 := (f53.wr W6 g_nb2)
    have f55 := (f54.wr W10 g_nb2)
    have f56 := (f55.wr W15 g_nb2)
    have f57 := (f56.wr W19 g_nb2)
    have f58 := (f57.wr W23 g_nb2)
    have f59 := (f58.wr W27 g_nb2)
    refine own_callN X27 hx (y := (⟨"java/lang/String", "<init>", "([C)V"⟩ : MethodName)) rfl hown (mvT hZ (hw _ (List.mem_of_getElem? (i := 10) rfl))) (mvT hZ (hw _ (List.mem_of_getElem? (i := 11) rfl))) (mvT hZ (hw _ (List.mem_of_getElem? (i := 12) rfl))) (by decide) (StrChars.Road.backV (W := 1) hZ (own_words hw) (kI := 4) (hw _ (List.mem_of_getElem? (i := 8) rfl)) (cs := ([(nar .char x0), (nar .char x1), (nar .char x2), (nar .char x3), (nar .char x4), (nar .char x5)] : List Int32)) (bs := ([(nar .char x0), (nar .char x1), (nar .char x2), (nar .char x3), (nar .char x4), (nar .char x5)] : List Int32).map (fun c => c.toInt8.toInt32)) (n := 6) g_nb1 (Nat.le_trans Z0 K27.1) f36 f44 f51 V27 (Sta.ext f59.2 SC) hCS rfl rfl (by decide) (by decide) hp29 rfl (by decide) (by decide)) (a := nb1) (g := (mkF m 235 #[.val (.int (6 : Int32)), .val (.ref b)] [(.ref nb2), (.ref nb1), (.ref nb1)])) rfl (by rw [hml]; rfl) (argsL := [(.ref nb2)]) (rest := [(.ref nb1)]) (lenOf pd_1 rfl) rfl (by show 2 * 0 + _ ≤ _; exact Nat.le_of_eq rfl) (hb hby d3_235) rfl e27 (by decide) (by decide) ?_
    rintro v29 T29 L29 X29 ⟨rfl, Nq29, Kq29, Eq29, Cq29, t29, kb29, g_t29, gt29, nt29, Vq29, Aq29⟩
    have sz_t29 : h0.size ≤ t29 := Nat.le_trans K27.1 gt29
    have N29 := Fr.app N27 Nq29
    have K29 : Keep h0 T29.heap [] := K27.trans Kq29 (allS (Or.inr sz_nb1) all0)
    have f60 := (Safe.ext E2 (own_Bk.ch B1) Sf1)
    have f61 := (Safe.wr W6 Sw6 (own_Bk.ch B2) f60)
    have f62 := (Safe.wr W10 Sw10 (own_Bk.ch B6) f61)
    have f63 := (Safe.wr W15 Sw15 (own_Bk.ch B10) f62)
    have f64 := (Safe.wr W19 Sw19 (own_Bk.ch B15) f63)
    have f65 := (Safe.wr W23 Sw23 (own_Bk.ch B19) f64)
    have f66 := (Safe.wr W27 Sw27 (own_Bk.ch B23) f65)
    have B29 := own_Bk.keep Kq29 (sfS f66 sf0) B27
    show own_Go p e below _ T29 (mkF m 238 #[.val (.int (6 : Int32)), .val (.ref b)] [(.ref nb1)])
    have ecs : own_str (6 : Int32) [x0, x1, x2, x3, x4, x5, x6, x7] = ([(nar .char x0), (nar .char x1), (nar .char x2), (nar .char x3), (nar .char x4), (nar .char x5)] : List Int32) := by simp [own_str, own_LN hL0, own_LN hL1, own_LN hL2, own_LN hL3, own_LN hL4, own_LN hL5, own_LN hL6, own_LN hL7]
    refine own_retAS X29 hx hlk hZ hEL rfl hh B29 Bd.returns rfl rfl (hb hby d3_238) ?_ (by decide) (by decide)
    show QM Z (own_str (6 : Int32) [x0, x1, x2, x3, x4, x5, x6, x7]) h0 n0 _ T29.heap _
    exact ⟨nb1, t29, kb29, rfl, N29, K29, sz_nb1, g_nb1, nt29, Eq29, Cq29, Vq29, by rw [ecs]; exact Aq29, by rw [ecs]; exact hp29⟩
  · show own_Go p e below _ s₁ (mkF m 0 #[.val (.int (7 : Int32)), .val (.ref b)] [])
    refine own_st (fun t_ k_ => XS.iloadN X0.here hx rfl (hb hby d3_0) rfl k_) ?_
    show own_Go p e below _ s₁ (mkF m 1 #[.val (.int (7 : Int32)), .val (.ref b)] [(.int (7 : Int32))])
    refine own_st (fun t_ k_ => XS.ifYes X0.here hx rfl (pc0 := 1) (pc' := 15) rfl (hb hby d3_1) rfl (by decide) (by decide) (by decide) k_) ?_
    show own_Go p e below _ s₁ (mkF m 15 #[.val (.int (7 : Int32)), .val (.ref b)] [])
    refine own_st (fun t_ k_ => XS.iloadN X0.here hx rfl (hb hby d3_15) rfl k_) ?_
    show own_Go p e below _ s₁ (mkF m 16 #[.val (.int (7 : Int32)), .val (.ref b)] [(.int (7 : Int32))])
    refine own_st (fun t_ k_ => XS.iconst X0.here hx rfl (hb hby d3_16) k_) ?_
    show own_Go p e below _ s₁ (mkF m 17 #[.val (.int (7 : Int32)), .val (.ref b)] [(.int (1 : Int32)), (.int (7 : Int32))])
    refine own_st (fun t_ k_ => XS.icmpYes X0.here hx rfl (pc0 := 17) (pc' := 37) rfl (hb hby d3_17) rfl (by decide) (by decide) (by decide) k_) ?_
    show own_Go p e below _ s₁ (mkF m 37 #[.val (.int (7 : Int32)), .val (.ref b)] [])
    refine own_st (fun t_ k_ => XS.iloadN X0.here hx rfl (hb hby d3_37) rfl k_) ?_
    show own_Go p e below _ s₁ (mkF m 38 #[.val (.int (7 : Int32)), .val (.ref b)] [(.int (7 : Int32))])
    refine own_st (fun t_ k_ => XS.iconst X0.here hx rfl (hb hby d3_38) k_) ?_
    show own_Go p e below _ s₁ (mkF m 39 #[.val (.int (7 : Int32)), .val (.ref b)] [(.int (2 : Int32)), (.int (7 : Int32))])
    refine own_st (fun t_ k_ => XS.icmpYes X0.here hx rfl (pc0 := 39) (pc' := 65) rfl (hb hby d3_39) rfl (by decide) (by decide) (by decide) k_) ?_
    show own_Go p e below _ s₁ (mkF m 65 #[.val (.int (7 : Int32)), .val (.ref b)] [])
    refine own_st (fun t_ k_ => XS.iloadN X0.here hx rfl (hb hby d3_65) rfl k_) ?_
    show own_Go p e below _ s₁ (mkF m 66 #[.val (.int (7 : Int32)), .val (.ref b)] [(.int (7 : Int32))])
    refine own_st (fun t_ k_ => XS.iconst X0.here hx rfl (hb hby d3_66) k_) ?_
    show own_Go p e below _ s₁ (mkF m 67 #[.val (.int (7 : Int32)), .val (.ref b)] [(.int (3 : Int32)), (.int (7 : Int32))])
    refine own_st (fun t_ k_ => XS.icmpYes X0.here hx rfl (pc0 := 67) (pc' := 99) rfl (hb hby d3_67) rfl (by decide) (by decide) (by decide) k_) ?_
    show own_Go p e below _ s₁ (mkF m 99 #[.val (.int (7 : Int32)), .val (.ref b)] [])
    refine own_st (fun t_ k_ => XS.iloadN X0.here hx rfl (hb hby d3_99) rfl k_) ?_
    show own_Go p e below _ s₁ (mkF m 100 #[.val (.int (7 : Int32)), .val (.ref b)] [(.int (7 : Int32))])
    refine own_st (fun t_ k_ => XS.iconst X0.here hx rfl (hb hby d3_100) k_) ?_
    show own_Go p e below _ s₁ (mkF m 101 #[.val (.int (7 : Int32)), .val (.ref b)] [(.int (4 : Int32)), (.int (7 : Int32))])
    refine own_st (fun t_ k_ => XS.icmpYes X0.here hx rfl (pc0 := 101) (pc' := 139) rfl (hb hby d3_101) rfl (by decide) (by decide) (by decide) k_) ?_
    show own_Go p e below _ s₁ (mkF m 139 #[.val (.int (7 : Int32)), .val (.ref b)] [])
    refine own_st (fun t_ k_ => XS.iloadN X0.here hx rfl (hb hby d3_139) rfl k_) ?_
    show own_Go p e below _ s₁ (mkF m 140 #[.val (.int (7 : Int32)), .val (.ref b)] [(.int (7 : Int32))])
    refine own_st (fun t_ k_ => XS.iconst X0.here hx rfl (hb hby d3_140) k_) ?_
    show own_Go p e below _ s₁ (mkF m 141 #[.val (.int (7 : Int32)), .val (.ref b)] [(.int (5 : Int32)), (.int (7 : Int32))])
    refine own_st (fun t_ k_ => XS.icmpYes X0.here hx rfl (pc0 := 141) (pc' := 185) rfl (hb hby d3_141) rfl (by decide) (by decide) (by decide) k_) ?_
    show own_Go p e below _ s₁ (mkF m 185 #[.val (.int (7 : Int32)), .val (.ref b)] [])
    refine own_st (fun t_ k_ => XS.iloadN X0.here hx rfl (hb hby d3_185) rfl k_) ?_
    show own_Go p e below _ s₁ (mkF m 186 #[.val (.int (7 : Int32)), .val (.ref b)] [(.int (7 : Int32))])
    refine own_st (fun t_ k_ => XS.bipush X0.here hx rfl (hb hby d3_186) k_) ?_
    show own_Go p e below _ s₁ (mkF m 188 #[.val (.int (7 : Int32)), .val (.ref b)] [(.int (6 : Int32)), (.int (7 : Int32))])
    refine own_st (fun t_ k_ => XS.icmpYes X0.here hx rfl (pc0 := 188) (pc' := 239) rfl (hb hby d3_188) rfl (by decide) (by decide) (by decide) k_) ?_
    show own_Go p e below _ s₁ (mkF m 239 #[.val (.int (7 : Int32)), .val (.ref b)] [])
    refine own_st (fun t_ k_ => XS.iloadN X0.here hx rfl (hb hby d3_239) rfl k_) ?_
    show own_Go p e below _ s₁ (mkF m 240 #[.val (.int (7 : Int32)), .val (.ref b)] [(.int (7 : Int32))])
    refine own_st (fun t_ k_ => XS.bipush X0.here hx rfl (hb hby d3_240) k_) ?_
    show own_Go p e below _ s₁ (mkF m 242 #[.val (.int (7 : Int32)), .val (.ref b)] [(.int (7 : Int32)), (.int (7 : Int32))])
    refine own_st (fun t_ k_ => XS.icmpNo X0.here hx rfl (hb hby d3_242) rfl (by decide) k_) ?_
    show own_Go p e below _ s₁ (mkF m 245 #[.val (.int (7 : Int32)), .val (.ref b)] [])
    obtain ⟨T1, h1, X1, e1, E1, A1, D1, cel1, st1⟩ := newO X0 hx hZ hown (hw _ (List.mem_of_getElem? (i := 7) rfl)) (hw _ (List.mem_of_getElem? (i := 8) rfl)) (hw _ (List.mem_of_getElem? (i := 9) rfl)) e0 (g := (mkF m 245 #[.val (.int (7 : Int32)), .val (.ref b)] [])) rfl (hb hby d3_245) (by decide) (by decide)
    obtain ⟨nb1, g1⟩ : ∃ z, z = h0.size := ⟨_, rfl⟩
    rw [← g1] at A1 D1 cel1 st1
    refine own_st st1 ?_
    have g_nb1 : n0 ≤ nb1 := Nat.le_trans (Nat.le_trans Z0 (Keep.refl h0 []).1) (Nat.le_of_eq g1.symm)
    have K1 : Keep h0 h1 [] := (Keep.refl h0 []).ext E1
    have sz_nb1 : h0.size ≤ nb1 := Nat.le_trans (Keep.refl h0 []).1 (Nat.le_of_eq g1.symm)
    have B1 := own_Bk.ext E1 B0
    have Sf1 := Safe.ext E1 (own_Bk.ch B0) (Safe.new (Nat.le_of_eq g1.symm))
    have F1_coder : Fld Z h1 nb1 "java/lang/String" "coder" "B" (.int (0 : Int32)) := D1 (Or.inr (hw _ (List.mem_of_getElem? (i := 33) rfl))) (ty := .byte) (by decide)
    have F1_value : Fld Z h1 nb1 "java/lang/String" "value" "[B" .null := D1 (Or.inr (hw _ (List.mem_of_getElem? (i := 35) rfl))) (ty := (.array .byte)) (by decide)
    show own_Go p e below _ T1 (mkF m 248 #[.val (.int (7 : Int32)), .val (.ref b)] [(.ref nb1)])
    refine own_st (fun t_ k_ => XS.dup X1.here hx rfl (hb hby d3_248) rfl rfl k_) ?_
    show own_Go p e below _ T1 (mkF m 249 #[.val (.int (7 : Int32)), .val (.ref b)] [(.ref nb1), (.ref nb1)])
    refine own_st (fun t_ k_ => XS.bipush X1.here hx rfl (hb hby d3_249) k_) ?_
    show own_Go p e below _ T1 (mkF m 251 #[.val (.int (7 : Int32)), .val (.ref b)] [(.int (7 : Int32)), (.ref nb1), (.ref nb1)])
    obtain ⟨T2, h2, k2, X2, e2, E2, A2, st2⟩ := newP X1 hx hZ (hw _ (List.mem_of_getElem? (i := 1) rfl)) e1 (g := (mkF m 251 #[.val (.int (7 : Int32)), .val (.ref b)] [(.int (7 : Int32)), (.ref nb1), (.ref nb1)])) rfl (hb hby d3_251) rfl (by decide) (cap := 7) (by decide) (by decide) (by decide) (by decide)
    obtain ⟨nb2, g2⟩ : ∃ z, z = h1.size := ⟨_, rfl⟩
    rw [← g2] at A2 st2
    refine own_st st2 ?_
    have g_nb2 : n0 ≤ nb2 := Nat.le_trans (Nat.le_trans Z0 K1.1) (Nat.le_of_eq g2.symm)
    have K2 : Keep h0 h2 [] := K1.ext E2
    have sz_nb2 : h0.size ≤ nb2 := Nat.le_trans K1.1 (Nat.le_of_eq g2.symm)
    have B2 := own_Bk.ext E2 B1
    have Sf2 := Safe.ext E2 (own_Bk.ch B1) (Safe.new (Nat.le_of_eq g2.symm))
    have V2 : Arv Z h2 nb2 k2 .char (7 : Int32) [(.int (0 : Int32)), (.int (0 : Int32)), (.int (0 : Int32)), (.int (0 : Int32)), (.int (0 : Int32)), (.int (0 : Int32)), (.int (0 : Int32))] (.int (0 : Int32)) := (Arv.new A2 (by decide)).pad (pad_rep [] (.int (0 : Int32)) 7)
    show own_Go p e below _ T2 (mkF m 253 #[.val (.int (7 : Int32)), .val (.ref b)] [(.ref nb2), (.ref nb1), (.ref nb1)])
    refine own_st (fun t_ k_ => XS.dup X2.here hx rfl (hb hby d3_253) rfl rfl k_) ?_
    show own_Go p e below _ T2 (mkF m 254 #[.val (.int (7 : Int32)), .val (.ref b)] [(.ref nb2), (.ref nb2), (.ref nb1), (.ref nb1)])
    refine own_st (fun t_ k_ => XS.iconst X2.here hx rfl (hb hby d3_254) k_) ?_
    show own_Go p e below _ T2 (mkF m 255 #[.val (.int (7 : Int32)), .val (.ref b)] [(.int (0 : Int32)), (.ref nb2), (.ref nb2), (.ref nb1), (.ref nb1)])
    refine own_st (fun t_ k_ => XS.aloadN X2.here hx rfl (hb hby d3_255) rfl rfl k_) ?_
    show own_Go p e below _ T2 (mkF m 256 #[.val (.int (7 : Int32)), .val (.ref b)] [(.ref b), (.int (0 : Int32)), (.ref nb2), (.ref nb2), (.ref nb1), (.ref nb1)])
    refine own_st (fun t_ k_ => XS.iconst X2.here hx rfl (hb hby d3_256) k_) ?_
    show own_Go p e below _ T2 (mkF m 257 #[.val (.int (7 : Int32)), .val (.ref b)] [(.int (0 : Int32)), (.ref b), (.int (0 : Int32)), (.ref nb2), (.ref nb2), (.ref nb1), (.ref nb1)])
    have f4 := (Ab.ext E1)
    have f5 := (f4.ext E2)
    obtain ⟨cl3, Ar3, q3, S3, N3', H3, G3⟩ := id f5
    have hin3 : ¬ ((0 : Int32) < 0 ∨ cl3.slots.size ≤ ((0 : Int32)).toNatClampNeg) := inb_of S3 ⟨by decide, by decide⟩
    refine own_st (fun t_ k_ => X2.caload hx (j := (0 : Int32)) (v := (.int x0)) (by rw [e2]; exact Ar3.1) (State.isArrayOf_alike hZ.alike Ar3.2.1) Ar3.2.2 hin3 (Has.at H3 hin3 rfl) (g := (mkF m 257 #[.val (.int (7 : Int32)), .val (.ref b)] [(.int (0 : Int32)), (.ref b), (.int (0 : Int32)), (.ref nb2), (.ref nb2), (.ref nb1), (.ref nb1)])) rfl rfl (hb hby d3_257) t_ k_) ?_
    show own_Go p e below _ T2 (mkF m 258 #[.val (.int (7 : Int32)), .val (.ref b)] [(.int x0), (.int (0 : Int32)), (.ref nb2), (.ref nb2), (.ref nb1), (.ref nb1)])
    obtain ⟨cl6, Ar6, q6, S6, N6', H6, G6⟩ := id V2
    have hin6 : ¬ ((0 : Int32) < 0 ∨ cl6.slots.size ≤ ((0 : Int32)).toNatClampNeg) := inb_of S6 ⟨by decide, by decide⟩
    obtain ⟨T6, h6, X6, e6, W6, st6⟩ := stC X2 hx hZ e2 Ar6 (j := (0 : Int32)) hin6 (g := (mkF m 258 #[.val (.int (7 : Int32)), .val (.ref b)] [(.int x0), (.int (0 : Int32)), (.ref nb2), (.ref nb2), (.ref nb1), (.ref nb1)])) rfl rfl (hb hby d3_258)
    have V6 : Arv Z h6 nb2 k2 .char (7 : Int32) [(.int (nar .char x0)), (.int (0 : Int32)), (.int (0 : Int32)), (.int (0 : Int32)), (.int (0 : Int32)), (.int (0 : Int32)), (.int (0 : Int32))] (.int (0 : Int32)) := Arv.set Ar6 q6 S6 N6' H6 G6 (fits_nar_char _) W6 0 rfl (Nat.le_of_ble_eq_true rfl)
    refine own_st st6 ?_
    have Sw6 := Sf2
    have B6 := own_Bk.wr W6 Sw6 B2
    have N6 := Fr.snoc X6 N0 g_nb2
    have K6 : Keep h0 h6 [] := K2.wr W6 (Or.inr sz_nb2)
    show own_Go p e below _ T6 (mkF m 259 #[.val (.int (7 : Int32)), .val (.ref b)] [(.ref nb2), (.ref nb1), (.ref nb1)])
    refine own_st (fun t_ k_ => XS.dup X6.here hx rfl (hb hby d3_259) rfl rfl k_) ?_
    show own_Go p e below _ T6 (mkF m 260 #[.val (.int (7 : Int32)), .val (.ref b)] [(.ref nb2), (.ref nb2), (.ref nb1), (.ref nb1)])
    refine own_st (fun t_ k_ => XS.iconst X6.here hx rfl (hb hby d3_260) k_) ?_
    show own_Go p e below _ T6 (mkF m 261 #[.val (.int (7 : Int32)), .val (.ref b)] [(.int (1 : Int32)), (.ref nb2), (.ref nb2), (.ref nb1), (.ref nb1)])
    refine own_st (fun t_ k_ => XS.aloadN X6.here hx rfl (hb hby d3_261) rfl rfl k_) ?_
    show own_Go p e below _ T6 (mkF m 262 #[.val (.int (7 : Int32)), .val (.ref b)] [(.ref b), (.int (1 : Int32)), (.ref nb2), (.ref nb2), (.ref nb1), (.ref nb1)])
    refine own_st (fun t_ k_ => XS.iconst X6.here hx rfl (hb hby d3_262) k_) ?_
    show own_Go p e below _ T6 (mkF m 263 #[.val (.int (7 : Int32)), .val (.ref b)] [(.int (1 : Int32)), (.ref b), (.int (1 : Int32)), (.ref nb2), (.ref nb2), (.ref nb1), (.ref nb1)])
    have ne8 : b ≠ nb2 := (Nat.ne_of_lt (Nat.lt_of_lt_of_le f4.lt (Nat.le_of_eq g2.symm)))
    have f9 := (f5.other W6 ne8)
    obtain ⟨cl7, Ar7, q7, S7, N7', H7, G7⟩ := id f9
    have hin7 : ¬ ((1 : Int32) < 0 ∨ cl7.slots.size ≤ ((1 : Int32)).toNatClampNeg) := inb_of S7 ⟨by decide, by decide⟩
    refine own_st (fun t_ k_ => X6.caload hx (j := (1 : Int32)) (v := (.int x1)) (by rw [e6]; exact Ar7.1) (State.isArrayOf_alike hZ.alike Ar7.2.1) Ar7.2.2 hin7 (Has.at H7 hin7 rfl) (g := (mkF m 263 #[.val (.int (7 : Int32)), .val (.ref b)] [(.int (1 : Int32)), (.ref b), (.int (1 : Int32)), (.ref nb2), (.ref nb2), (.ref nb1), (.ref nb1)])) rfl rfl (hb hby d3_263) t_ k_) ?_
    show own_Go p e below _ T6 (mkF m 264 #[.val (.int (7 : Int32)), .val (.ref b)] [(.int x1), (.int (1 : Int32)), (.ref nb2), (.ref nb2), (.ref nb1), (.ref nb1)])
    obtain ⟨cl10, Ar10, q10, S10, N10', H10, G10⟩ := id V6
    have hin10 : ¬ ((1 : Int32) < 0 ∨ cl10.slots.size ≤ ((1 : Int32)).toNatClampNeg) := inb_of S10 ⟨by decide, by decide⟩
    obtain ⟨T10, h10, X10, e10, W10, st10⟩ := stC X6 hx hZ e6 Ar10 (j := (1 : Int32)) hin10 (g := (mkF m 264 #[.val (.int (7 : Int32)), .val (.ref b)] [(.int x1), (.int (1 : Int32)), (.ref nb2), (.ref nb2), (.ref nb1), (.ref nb1)])) rfl rfl (hb hby d3_264)
    have V10 : Arv Z h10 nb2 k2 .char (7 : Int32) [(.int (nar .char x0)), (.int (nar .char x1)), (.int (0 : Int32)), (.int (0 : Int32)), (.int (0 : Int32)), (.int (0 : Int32)), (.int (0 : Int32))] (.int (0 : Int32)) := Arv.set Ar10 q10 S10 N10' H10 G10 (fits_nar_char _) W10 1 rfl (Nat.le_of_ble_eq_true rfl)
    refine own_st st10 ?_
    have f11 := (Safe.wr W6 Sw6 (own_Bk.ch B2) Sf2)
    have Sw10 := f11
    have B10 := own_Bk.wr W10 Sw10 B6
    have N10 := Fr.snoc X10 N6 g_nb2
    have K10 : Keep h0 h10 [] := K6.wr W10 (Or.inr sz_nb2)
    show own_Go p e below _ T10 (mkF m 265 #[.val (.int (7 : Int32)), .val (.ref b)] [(.ref nb2), (.ref nb1), (.ref nb1)])
    refine own_st (fun t_ k_ => XS.dup X10.here hx rfl (hb hby d3_265) rfl rfl k_) ?_
    show own_Go p e below _ T10 (mkF m 266 #[.val (.int (7 : Int32)), .val (.ref b)] [(.ref nb2), (.ref nb2), (.ref nb1), (.ref nb1)])
    refine own_st (fun t_ k_ => XS.iconst X10.here hx rfl (hb hby d3_266) k_) ?_
    show own_Go p e below _ T10 (mkF m 267 #[.val (.int (7 : Int32)), .val (.ref b)] [(.int (2 : Int32)), (.ref nb2), (.ref nb2), (.ref nb1), (.ref nb1)])
    refine own_st (fun t_ k_ => XS.aloadN X10.here hx rfl (hb hby d3_267) rfl rfl k_) ?_
    show own_Go p e below _ T10 (mkF m 268 #[.val (.int (7 : Int32)), .val (.ref b)] [(.ref b), (.int (2 : Int32)), (.ref nb2), (.ref nb2), (.ref nb1), (.ref nb1)])
    refine own_st (fun t_ k_ => XS.iconst X10.here hx rfl (hb hby d3_268) k_) ?_
    show own_Go p e below _ T10 (mkF m 269 #[.val (.int (7 : Int32)), .val (.ref b)] [(.int (2 : Int32)), (.ref b), (.int (2 : Int32)), (.ref nb2), (.ref nb2), (.ref nb1), (.ref nb1)])
    have f13 := (f5.other W6 ne8)
    have f14 := (f13.other W10 ne8)
    obtain ⟨cl12, Ar12, q12, S12, N12', H12, G12⟩ := id f14
    have hin12 : ¬ ((2 : Int32) < 0 ∨ cl12.slots.size ≤ ((2 : Int32)).toNatClampNeg) := inb_of S12 ⟨by decide, by decide⟩
    refine own_st (fun t_ k_ => X10.caload hx (j := (2 : Int32)) (v := (.int x2)) (by rw [e10]; exact Ar12.1) (State.isArrayOf_alike hZ.alike Ar12.2.1) Ar12.2.2 hin12 (Has.at H12 hin12 rfl) (g := (mkF m 269 #[.val (.int (7 : Int32)), .val (.ref b)] [(.int (2 : Int32)), (.ref b), (.int (2 : Int32)), (.ref nb2), (.ref nb2), (.ref nb1), (.ref nb1)])) rfl rfl (hb hby d3_269) t_ k_) ?_
    show own_Go p e below _ T10 (mkF m 270 #[.val (.int (7 : Int32)), .val (.ref b)] [(.int x2), (.int (2 : Int32)), (.ref nb2), (.ref nb2), (.ref nb1), (.ref nb1)])
    obtain ⟨cl15, Ar15, q15, S15, N15', H15, G15⟩ := id V10
    have hin15 : ¬ ((2 : Int32) < 0 ∨ cl15.slots.size ≤ ((2 : Int32)).toNatClampNeg) := inb_of S15 ⟨by decide, by decide⟩
    obtain ⟨T15, h15, X15, e15, W15, st15⟩ := stC X10 hx hZ e10 Ar15 (j := (2 : Int32)) hin15 (g := (mkF m 270 #[.val (.int (7 : Int32)), .val (.ref b)] [(.int x2), (.int (2 : Int32)), (.ref nb2), (.ref nb2), (.ref nb1), (.ref nb1)])) rfl rfl (hb hby d3_270)
    have V15 : Arv Z h15 nb2 k2 .char (7 : Int32) [(.int (nar .char x0)), (.int (nar .char x1)), (.int (nar .char x2)), (.int (0 : Int32)), (.int (0 : Int32)), (.int (0 : Int32)), (.int (0 : Int32))] (.int (0 : Int32)) := Arv.set Ar15 q15 S15 N15' H15 G15 (fits_nar_char _) W15 2 rfl (Nat.le_of_ble_eq_true rfl)
    refine own_st st15 ?_
    have f16 := (Safe.wr W10 Sw10 (own_Bk.ch B6) f11)
    have Sw15 := f16
    have B15 := own_Bk.wr W15 Sw15 B10
    have N15 := Fr.snoc X15 N10 g_nb2
    have K15 : Keep h0 h15 [] := K10.wr W15 (Or.inr sz_nb2)
    show own_Go p e below _ T15 (mkF m 271 #[.val (.int (7 : Int32)), .val (.ref b)] [(.ref nb2), (.ref nb1), (.ref nb1)])
    refine own_st (fun t_ k_ => XS.dup X15.here hx rfl (hb hby d3_271) rfl rfl k_) ?_
    show own_Go p e below _ T15 (mkF m 272 #[.val (.int (7 : Int32)), .val (.ref b)] [(.ref nb2), (.ref nb2), (.ref nb1), (.ref nb1)])
    refine own_st (fun t_ k_ => XS.iconst X15.here hx rfl (hb hby d3_272) k_) ?_
    show own_Go p e below _ T15 (mkF m 273 #[.val (.int (7 : Int32)), .val (.ref b)] [(.int (3 : Int32)), (.ref nb2), (.ref nb2), (.ref nb1), (.ref nb1)])
    refine own_st (fun t_ k_ => XS.aloadN X15.here hx rfl (hb hby d3_273) rfl rfl k_) ?_
    show own_Go p e below _ T15 (mkF m 274 #[.val (.int (7 : Int32)), .val (.ref b)] [(.ref b), (.int (3 : Int32)), (.ref nb2), (.ref nb2), (.ref nb1), (.ref nb1)])
    refine own_st (fun t_ k_ => XS.iconst X15.here hx rfl (hb hby d3_274) k_) ?_
    show own_Go p e below _ T15 (mkF m 275 #[.val (.int (7 : Int32)), .val (.ref b)] [(.int (3 : Int32)), (.ref b), (.int (3 : Int32)), (.ref nb2), (.ref nb2), (.ref nb1), (.ref nb1)])
    have f18 := (f14.other W15 ne8)
    obtain ⟨cl17, Ar17, q17, S17, N17', H17, G17⟩ := id f18
    have hin17 : ¬ ((3 : Int32) < 0 ∨ cl17.slots.size ≤ ((3 : Int32)).toNatClampNeg) := inb_of S17 ⟨by decide, by decide⟩
    refine own_st (fun t_ k_ => X15.caload hx (j := (3 : Int32)) (v := (.int x3)) (by rw [e15]; exact Ar17.1) (State.isArrayOf_alike hZ.alike Ar17.2.1) Ar17.2.2 hin17 (Has.at H17 hin17 rfl) (g := (mkF m 275 #[.val (.int (7 : Int32)), .val (.ref b)] [(.int (3 : Int32)), (.ref b), (.int (3 : Int32)), (.ref nb2), (.ref nb2), (.ref nb1), (.ref nb1)])) rfl rfl (hb hby d3_275) t_ k_) ?_
    show own_Go p e below _ T15 (mkF m 276 #[.val (.int (7 : Int32)), .val (.ref b)] [(.int x3), (.int (3 : Int32)), (.ref nb2), (.ref nb2), (.ref nb1), (.ref nb1)])
    obtain ⟨cl19, Ar19, q19, S19, N19', H19, G19⟩ := id V15
    have hin19 : ¬ ((3 : Int32) < 0 ∨ cl19.slots.size ≤ ((3 : Int32)).toNatClampNeg) := inb_of S19 ⟨by decide, by decide⟩
    obtain ⟨T19, h19, X19, e19, W19, st19⟩ := stC X15 hx hZ e15 Ar19 (j := (3 : Int32)) hin19 (g := (mkF m 276 #[.val (.int (7 : Int32)), .val (.ref b)] [(.int x3), (.int (3 : Int32)), (.ref nb2), (.ref nb2), (.ref nb1), (.ref nb1)])) rfl rfl (hb hby d3_276)
    have V19 : Arv Z h19 nb2 k2 .char (7 : Int32) [(.int (nar .char x0)), (.int (nar .char x1)), (.int (nar .char x2)), (.int (nar .char x3)), (.int (0 : Int32)), (.int (0 : Int32)), (.int (0 : Int32))] (.int (0 : Int32)) := Arv.set Ar19 q19 S19 N19' H19 G19 (fits_nar_char _) W19 3 rfl (Nat.le_of_ble_eq_true rfl)
    refine own_st st19 ?_
    have f20 := (Safe.wr W15 Sw15 (own_Bk.ch B10) f16)
    have Sw19 := f20
    have B19 := own_Bk.wr W19 Sw19 B15
    have N19 := Fr.snoc X19 N15 g_nb2
    have K19 : Keep h0 h19 [] := K15.wr W19 (Or.inr sz_nb2)
    show own_Go p e below _ T19 (mkF m 277 #[.val (.int (7 : Int32)), .val (.ref b)] [(.ref nb2), (.ref nb1), (.ref nb1)])
    refine own_st (fun t_ k_ => XS.dup X19.here hx rfl (hb hby d3_277) rfl rfl k_) ?_
    show own_Go p e below _ T19 (mkF m 278 #[.val (.int (7 : Int32)), .val (.ref b)] [(.ref nb2), (.ref nb2), (.ref nb1), (.ref nb1)])
    refine own_st (fun t_ k_ => XS.iconst X19.here hx rfl (hb hby d3_278) k_) ?_
    show own_Go p e below _ T19 (mkF m 279 #[.val (.int (7 : Int32)), .val (.ref b)] [(.int (4 : Int32)), (.ref nb2), (.ref nb2), (.ref nb1), (.ref nb1)])
    refine own_st (fun t_ k_ => XS.aloadN X19.here hx rfl (hb hby d3_279) rfl rfl k_) ?_
    show own_Go p e below _ T19 (mkF m 280 #[.val (.int (7 : Int32)), .val (.ref b)] [(.ref b), (.int (4 : Int32)), (.ref nb2), (.ref nb2), (.ref nb1), (.ref nb1)])
    refine own_st (fun t_ k_ => XS.iconst X19.here hx rfl (hb hby d3_280) k_) ?_
    show own_Go p e below _ T19 (mkF m 281 #[.val (.int (7 : Int32)), .val (.ref b)] [(.int (4 : Int32)), (.ref b), (.int (4 : Int32)), (.ref nb2), (.ref nb2), (.ref nb1), (.ref nb1)])
    have f22 := (f18.other W19 ne8)
    obtain ⟨cl21, Ar21, q21, S21, N21', H21, G21⟩ := id f22
    have hin21 : ¬ ((4 : Int32) < 0 ∨ cl21.slots.size ≤ ((4 : Int32)).toNatClampNeg) := inb_of S21 ⟨by decide, by decide⟩
    refine own_st (fun t_ k_ => X19.caload hx (j := (4 : Int32)) (v := (.int x4)) (by rw [e19]; exact Ar21.1) (State.isArrayOf_alike hZ.alike Ar21.2.1) Ar21.2.2 hin21 (Has.at H21 hin21 rfl) (g := (mkF m 281 #[.val (.int (7 : Int32)), .val (.ref b)] [(.int (4 : Int32)), (.ref b), (.int (4 : Int32)), (.ref nb2), (.ref nb2), (.ref nb1), (.ref nb1)])) rfl rfl (hb hby d3_281) t_ k_) ?_
    show own_Go p e below _ T19 (mkF m 282 #[.val (.int (7 : Int32)), .val (.ref b)] [(.int x4), (.int (4 : Int32)), (.ref nb2), (.ref nb2), (.ref nb1), (.ref nb1)])
    obtain ⟨cl23, Ar23, q23, S23, N23', H23, G23⟩ := id V19
    have hin23 : ¬ ((4 : Int32) < 0 ∨ cl23.slots.size ≤ ((4 : Int32)).toNatClampNeg) := inb_of S23 ⟨by decide, by decide⟩
    obtain ⟨T23, h23, X23, e23, W23, st23⟩ := stC X19 hx hZ e19 Ar23 (j := (4 : Int32)) hin23 (g := (mkF m 282 #[.val (.int (7 : Int32)), .val (.ref b)] [(.int x4), (.int (4 : Int32)), (.ref nb2), (.ref nb2), (.ref nb1), (.ref nb1)])) rfl rfl (hb hby d3_282)
    have V23 : Arv Z h23 nb2 k2 .char (7 : Int32) [(.int (nar .char x0)), (.int (nar .char x1)), (.int (nar .char x2)), (.int (nar .char x3)), (.int (nar .char x4)), (.int (0 : Int32)), (.int (0 : Int32))] (.int (0 : Int32)) := Arv.set Ar23 q23 S23 N23' H23 G23 (fits_nar_char _) W23 4 rfl (Nat.le_of_ble_eq_true rfl)
    refine own_st st23 ?_
    have f24 := (Safe.wr W19 Sw19 (own_Bk.ch B15) f20)
    have Sw23 := f24
    have B23 := own_Bk.wr W23 Sw23 B19
    have N23 := Fr.snoc X23 N19 g_nb2
    have K23 : Keep h0 h23 [] := K19.wr W23 (Or.inr sz_nb2)
    show own_Go p e below _ T23 (mkF m 283 #[.val (.int (7 : Int32)), .val (.ref b)] [(.ref nb2), (.ref nb1), (.ref nb1)])
    refine own_st (fun t_ k_ => XS.dup X23.here hx rfl (hb hby d3_283) rfl rfl k_) ?_
    show own_Go p e below _ T23 (mkF m 284 #[.val (.int (7 : Int32)), .val (.ref b)] [(.ref nb2), (.ref nb2), (.ref nb1), (.ref nb1)])
    refine own_st (fun t_ k_ => XS.iconst X23.here hx rfl (hb hby d3_284) k_) ?_
    show own_Go p e below _ T23 (mkF m 285 #[.val (.int (7 : Int32)), .val (.ref b)] [(.int (5 : Int32)), (.ref nb2), (.ref nb2), (.ref nb1), (.ref nb1)])
    refine own_st (fun t_ k_ => XS.aloadN X23.here hx rfl (hb hby d3_285) rfl rfl k_) ?_
    show own_Go p e below _ T23 (mkF m 286 #[.val (.int (7 : Int32)), .val (.ref b)] [(.ref b), (.int (5 : Int32)), (.ref nb2), (.ref nb2), (.ref nb1), (.ref nb1)])
    refine own_st (fun t_ k_ => XS.iconst X23.here hx rfl (hb hby d3_286) k_) ?_
    show own_Go p e below _ T23 (mkF m 287 #[.val (.int (7 : Int32)), .val (.ref b)] [(.int (5 : Int32)), (.ref b), (.int (5 : Int32)), (.ref nb2), (.ref nb2), (.ref nb1), (.ref nb1)])
    have f26 := (f22.other W23 ne8)
    obtain ⟨cl25, Ar25, q25, S25, N25', H25, G25⟩ := id f26
    have hin25 : ¬ ((5 : Int32) < 0 ∨ cl25.slots.size ≤ ((5 : Int32)).toNatClampNeg) := inb_of S25 ⟨by decide, by decide⟩
    refine own_st (fun t_ k_ => X23.caload hx (j := (5 : Int32)) (v := (.int x5)) (by rw [e23]; exact Ar25.1) (State.isArrayOf_alike hZ.alike Ar25.2.1) Ar25.2.2 hin25 (Has.at H25 hin25 rfl) (g := (mkF m 287 #[.val (.int (7 : Int32)), .val (.ref b)] [(.int (5 : Int32)), (.ref b), (.int (5 : Int32)), (.ref nb2), (.ref nb2), (.ref nb1), (.ref nb1)])) rfl rfl (hb hby d3_287) t_ k_) ?_
    show own_Go p e below _ T23 (mkF m 288 #[.val (.int (7 : Int32)), .val (.ref b)] [(.int x5), (.int (5 : Int32)), (.ref nb2), (.ref nb2), (.ref nb1), (.ref nb1)])
    obtain ⟨cl27, Ar27, q27, S27, N27', H27, G27⟩ := id V23
    have hin27 : ¬ ((5 : Int32) < 0 ∨ cl27.slots.size ≤ ((5 : Int32)).toNatClampNeg) := inb_of S27 ⟨by decide, by decide⟩
    obtain ⟨T27, h27, X27, e27, W27, st27⟩ := stC X23 hx hZ e23 Ar27 (j := (5 : Int32)) hin27 (g := (mkF m 288 #[.val (.int (7 : Int32)), .val (.ref b)] [(.int x5), (.int (5 : Int32)), (.ref nb2), (.ref nb2), (.ref nb1), (.ref nb1)])) rfl rfl (hb hby d3_288)
    have V27 : Arv Z h27 nb2 k2 .char (7 : Int32) [(.int (nar .char x0)), (.int (nar .char x1)), (.int (nar .char x2)), (.int (nar .char x3)), (.int (nar .char x4)), (.int (nar .char x5)), (.int (0 : Int32))] (.int (0 : Int32)) := Arv.set Ar27 q27 S27 N27' H27 G27 (fits_nar_char _) W27 5 rfl (Nat.le_of_ble_eq_true rfl)
    refine own_st st27 ?_
    have f28 := (Safe.wr W23 Sw23 (own_Bk.ch B19) f24)
    have Sw27 := f28
    have B27 := own_Bk.wr W27 Sw27 B23
    have N27 := Fr.snoc X27 N23 g_nb2
    have K27 : Keep h0 h27 [] := K23.wr W27 (Or.inr sz_nb2)
    show own_Go p e below _ T27 (mkF m 289 #[.val (.int (7 : Int32)), .val (.ref b)] [(.ref nb2), (.ref nb1), (.ref nb1)])
    refine own_st (fun t_ k_ => XS.dup X27.here hx rfl (hb hby d3_289) rfl rfl k_) ?_
    show own_Go p e below _ T27 (mkF m 290 #[.val (.int (7 : Int32)), .val (.ref b)] [(.ref nb2), (.ref nb2), (.ref nb1), (.ref nb1)])
    refine own_st (fun t_ k_ => XS.bipush X27.here hx rfl (hb hby d3_290) k_) ?_
    show own_Go p e below _ T27 (mkF m 292 #[.val (.int (7 : Int32)), .val (.ref b)] [(.int (6 : Int32)), (.ref nb2), (.ref nb2), (.ref nb1), (.ref nb1)])
    refine own_st (fun t_ k_ => XS.aloadN X27.here hx rfl (hb hby d3_292) rfl rfl k_) ?_
    show own_Go p e below _ T27 (mkF m 293 #[.val (.int (7 : Int32)), .val (.ref b)] [(.ref b), (.int (6 : Int32)), (.ref nb2), (.ref nb2), (.ref nb1), (.ref nb1)])
    refine own_st (fun t_ k_ => XS.bipush X27.here hx rfl (hb hby d3_293) k_) ?_
    show own_Go p e below _ T27 (mkF m 295 #[.val (.int (7 : Int32)), .val (.ref b)] [(.int (6 : Int32)), (.ref b), (.int (6 : Int32)), (.ref nb2), (.ref nb2), (.ref nb1), (.ref nb1)])
    have f30 := (f26.other W27 ne8)
    obtain ⟨cl29, Ar29, q29, S29, N29', H29, G29⟩ := id f30
    have hin29 : ¬ ((6 : Int32) < 0 ∨ cl29.slots.size ≤ ((6 : Int32)).toNatClampNeg) := inb_of S29 ⟨by decide, by decide⟩
    refine own_st (fun t_ k_ => X27.caload hx (j := (6 : Int32)) (v := (.int x6)) (by rw [e27]; exact Ar29.1) (State.isArrayOf_alike hZ.alike Ar29.2.1) Ar29.2.2 hin29 (Has.at H29 hin29 rfl) (g := (mkF m 295 #[.val (.int (7 : Int32)), .val (.ref b)] [(.int (6 : Int32)), (.ref b), (.int (6 : Int32)), (.ref nb2), (.ref nb2), (.ref nb1), (.ref nb1)])) rfl rfl (hb hby d3_295) t_ k_) ?_
    show own_Go p e below _ T27 (mkF m 296 #[.val (.int (7 : Int32)), .val (.ref b)] [(.int x6), (.int (6 : Int32)), (.ref nb2), (.ref nb2), (.ref nb1), (.ref nb1)])
    obtain ⟨cl31, Ar31, q31, S31, N31', H31, G31⟩ := id V27
    have hin31 : ¬ ((6 : Int32) < 0 ∨ cl31.slots.size ≤ ((6 : Int32)).toNatClampNeg) := inb_of S31 ⟨by decide, by decide⟩
    obtain ⟨T31, h31, X31, e31, W31, st31⟩ := stC X27 hx hZ e27 Ar31 (j := (6 : Int32)) hin31 (g := (mkF m 296 #[.val (.int (7 : Int32)), .val (.ref b)] [(.int x6), (.int (6 : Int32)), (.ref nb2), (.ref nb2), (.ref nb1), (.ref nb1)])) rfl rfl (hb hby d3_296)
    have V31 : Arv Z h31 nb2 k2 .char (7 : Int32) [(.int (nar .char x0)), (.int (nar .char x1)), (.int (nar .char x2)), (.int (nar .char x3)), (.int (nar .char x4)), (.int (nar .char x5)), (.int (nar .char x6))] (.int (0 : Int32)) := Arv.set Ar31 q31 S31 N31' H31 G31 (fits_nar_char _) W31 6 rfl (Nat.le_of_ble_eq_true rfl)
    refine own_st st31 ?_
    have f32 := (Safe.wr W27 Sw27 (own_Bk.ch B23) f28)
    have Sw31 := f32
    have B31 := own_Bk.wr W31 Sw31 B27
    have N31 := Fr.snoc X31 N27 g_nb2
    have K31 : Keep h0 h31 [] := K27.wr W31 (Or.inr sz_nb2)
    show own_Go p e below _ T31 (mkF m 297 #[.val (.int (7 : Int32)), .val (.ref b)] [(.ref nb2), (.ref nb1), (.ref nb1)])
    have hp33 : ∀ c ∈ ([(nar .char x0), (nar .char x1), (nar .char x2), (nar .char x3), (nar .char x4), (nar .char x5), (nar .char x6)] : List Int32), ¬ c < 0 ∧ ¬ (255 : Int32) < c := (own_lcons (own_LLN hL0) (own_lcons (own_LLN hL1) (own_lcons (own_LLN hL2) (own_lcons (own_LLN hL3) (own_lcons (own_LLN hL4) (own_lcons (own_LLN hL5) (own_lcons (own_LLN hL6) own_lnil)))))))
    have f34 := (Exa.ext E2 A1)
    have f35 := (Exa.wr W6 f34)
    have f36 := (Exa.wr W10 f35)
    have f37 := (Exa.wr W15 f36)
    have f38 := (Exa.wr W19 f37)
    have f39 := (Exa.wr W23 f38)
    have f40 := (Exa.wr W27 f39)
    have f41 := (Exa.wr W31 f40)
    have f42 := (Fld.ext E2 F1_value)
    have ne43 : nb1 ≠ nb2 := (Nat.ne_of_lt (Nat.lt_of_lt_of_le A1.lt (Nat.le_of_eq g2.symm)))
    have f44 := (Fld.other W6 f42 (Or.inl ne43))
    have f45 := (Fld.other W10 f44 (Or.inl ne43))
    have f46 := (Fld.other W15 f45 (Or.inl ne43))
    have f47 := (Fld.other W19 f46 (Or.inl ne43))
    have f48 := (Fld.other W23 f47 (Or.inl ne43))
    have f49 := (Fld.other W27 f48 (Or.inl ne43))
    have f50 := (Fld.other W31 f49 (Or.inl ne43))
    have f51 := (Fld.ext E2 F1_coder)
    have f52 := (Fld.other W6 f51 (Or.inl ne43))
    have f53 := (Fld.other W10 f52 (Or.inl ne43))
    have f54 := (Fld.other W15 f53 (Or.inl ne43))
    have f55 := (Fld.other W19 f54 (Or.inl ne43))
    have f56 := (Fld.other W23 f55 (Or.inl ne43))
    have f57 := (Fld.other W27 f56 (Or.inl ne43))
    have f58 := (Fld.other W31 f57 (Or.inl ne43))
    have f59 := (O0.ext E1)
    have f60 := (f59.ext E2)
    have f61 := (f60.wr W6 g_nb2)
    have f62 := (f61.wr W10 g_nb2)
    have f63 := (f62.wr W15 g_nb2)
    have f64 := (f63.wr W19 g_nb2)
    have f65 := (f64.wr W23 g_nb2)
    have f66 := (f65.wr W27 g_nb2)
    have f67 := (f66.wr W31 g_nb2)
    refine own_callN X31 hx (y := (⟨"java/lang/String", "<init>", "([C)V"⟩ : MethodName)) rfl hown (mvT hZ (hw _ (List.mem_of_getElem? (i := 10) rfl))) (mvT hZ (hw _ (List.mem_of_getElem? (i := 11) rfl))) (mvT hZ (hw _ (List.mem_of_getElem? (i := 12) rfl))) (by decide) (StrChars.Road.backV (W := 1) hZ (own_words hw) (kI := 4) (hw _ (List.mem_of_getElem? (i := 8) rfl)) (cs := ([(nar .char x0), (nar .char x1), (nar .char x2), (nar .char x3), (nar .char x4), (nar .char x5), (nar .char x6)] : List Int32)) (bs := ([(nar .char x0), (nar .char x1), (nar .char x2), (nar .char x3), (nar .char x4), (nar .char x5), (nar .char x6)] : List Int32).map (fun c => c.toInt8.toInt32)) (n := 7) g_nb1 (Nat.le_trans Z0 K31.1) f41 f50 f58 V31 (Sta.ext f67.2 SC) hCS rfl rfl (by decide) (by decide) hp33 rfl (by decide) (by decide)) (a := nb1) (g := (mkF m 297 #[.val (.int (7 : Int32)), .val (.ref b)] [(.ref nb2), (.ref nb1), (.ref nb1)])) rfl (by rw [hml]; rfl) (argsL := [(.ref nb2)]) (rest := [(.ref nb1)]) (lenOf pd_1 rfl) rfl (by show 2 * 0 + _ ≤ _; exact Nat.le_of_eq rfl) (hb hby d3_297) rfl e31 (by decide) (by decide) ?_
    rintro v33 T33 L33 X33 ⟨rfl, Nq33, Kq33, Eq33, Cq33, t33, kb33, g_t33, gt33, nt33, Vq33, Aq33⟩
    have sz_t33 : h0.size ≤ t33 := Nat.le_trans K31.1 gt33
    have N33 := Fr.app N31 Nq33
    have K33 : Keep h0 T33.heap [] := K31.trans Kq33 (allS (Or.inr sz_nb1) all0)
    have f68 := (Safe.ext E2 (own_Bk.ch B1) Sf1)
    have f69 := (Safe.wr W6 Sw6 (own_Bk.ch B2) f68)
    have f70 := (Safe.wr W10 Sw10 (own_Bk.ch B6) f69)
    have f71 := (Safe.wr W15 Sw15 (own_Bk.ch B10) f70)
    have f72 := (Safe.wr W19 Sw19 (own_Bk.ch B15) f71)
    have f73 := (Safe.wr W23 Sw23 (own_Bk.ch B19) f72)
    have f74 := (Safe.wr W27 Sw27 (own_Bk.ch B23) f73)
    have f75 := (Safe.wr W31 Sw31 (own_Bk.ch B27) f74)
    have B33 := own_Bk.keep Kq33 (sfS f75 sf0) B31
    show own_Go p e below _ T33 (mkF m 300 #[.val (.int (7 : Int32)), .val (.ref b)] [(.ref nb1)])
    have ecs : own_str (7 : Int32) [x0, x1, x2, x3, x4, x5, x6, x7] = ([(nar .char x0), (nar .char x1), (nar .char x2), (nar .char x3), (nar .char x4), (nar .char x5), (nar .char x6)] : List Int32) := by simp [own_str, own_LN hL0, own_LN hL1, own_LN hL2, own_LN hL3, own_LN hL4, own_LN hL5, own_LN hL6, own_LN hL7]
    refine own_retAS X33 hx hlk hZ hEL rfl hh B33 Bd.returns rfl rfl (hb hby d3_300) ?_ (by decide) (by decide)
    show QM Z (own_str (7 : Int32) [x0, x1, x2, x3, x4, x5, x6, x7]) h0 n0 _ T33.heap _
    exact ⟨nb1, t33, kb33, rfl, N33, K33, sz_nb1, g_nb1, nt33, Eq33, Cq33, Vq33, by rw [ecs]; exact Aq33, by rw [ecs]; exact hp33⟩
  · show own_Go p e below _ s₁ (mkF m 0 #[.val (.int (8 : Int32)), .val (.ref b)] [])
    refine own_st (fun t_ k_ => XS.iloadN X0.here hx rfl (hb hby d3_0) rfl k_) ?_
    show own_Go p e below _ s₁ (mkF m 1 #[.val (.int (8 : Int32)), .val (.ref b)] [(.int (8 : Int32))])
    refine own_st (fun t_ k_ => XS.ifYes X0.here hx rfl (pc0 := 1) (pc' := 15) rfl (hb hby d3_1) rfl (by decide) (by decide) (by decide) k_) ?_
    show own_Go p e below _ s₁ (mkF m 15 #[.val (.int (8 : Int32)), .val (.ref b)] [])
    refine own_st (fun t_ k_ => XS.iloadN X0.here hx rfl (hb hby d3_15) rfl k_) ?_
    show own_Go p e below _ s₁ (mkF m 16 #[.val (.int (8 : Int32)), .val (.ref b)] [(.int (8 : Int32))])
    refine own_st (fun t_ k_ => XS.iconst X0.here hx rfl (hb hby d3_16) k_) ?_
    show own_Go p e below _ s₁ (mkF m 17 #[.val (.int (8 : Int32)), .val (.ref b)] [(.int (1 : Int32)), (.int (8 : Int32))])
    refine own_st (fun t_ k_ => XS.icmpYes X0.here hx rfl (pc0 := 17) (pc' := 37) rfl (hb hby d3_17) rfl (by decide) (by decide) (by decide) k_) ?_
    show own_Go p e below _ s₁ (mkF m 37 #[.val (.int (8 : Int32)), .val (.ref b)] [])
    refine own_st (fun t_ k_ => XS.iloadN X0.here hx rfl (hb hby d3_37) rfl k_) ?_
    show own_Go p e below _ s₁ (mkF m 38 #[.val (.int (8 : Int32)), .val (.ref b)] [(.int (8 : Int32))])
    refine own_st (fun t_ k_ => XS.iconst X0.here hx rfl (hb hby d3_38) k_) ?_
    show own_Go p e below _ s₁ (mkF m 39 #[.val (.int (8 : Int32)), .val (.ref b)] [(.int (2 : Int32)), (.int (8 : Int32))])
    refine own_st (fun t_ k_ => XS.icmpYes X0.here hx rfl (pc0 := 39) (pc' := 65) rfl (hb hby d3_39) rfl (by decide) (by decide) (by decide) k_) ?_
    show own_Go p e below _ s₁ (mkF m 65 #[.val (.int (8 : Int32)), .val (.ref b)] [])
    refine own_st (fun t_ k_ => XS.iloadN X0.here hx rfl (hb hby d3_65) rfl k_) ?_
    show own_Go p e below _ s₁ (mkF m 66 #[.val (.int (8 : Int32)), .val (.ref b)] [(.int (8 : Int32))])
    refine own_st (fun t_ k_ => XS.iconst X0.here hx rfl (hb hby d3_66) k_) ?_
    show own_Go p e below _ s₁ (mkF m 67 #[.val (.int (8 : Int32)), .val (.ref b)] [(.int (3 : Int32)), (.int (8 : Int32))])
    refine own_st (fun t_ k_ => XS.icmpYes X0.here hx rfl (pc0 := 67) (pc' := 99) rfl (hb hby d3_67) rfl (by decide) (by decide) (by decide) k_) ?_
    show own_Go p e below _ s₁ (mkF m 99 #[.val (.int (8 : Int32)), .val (.ref b)] [])
    refine own_st (fun t_ k_ => XS.iloadN X0.here hx rfl (hb hby d3_99) rfl k_) ?_
    show own_Go p e below _ s₁ (mkF m 100 #[.val (.int (8 : Int32)), .val (.ref b)] [(.int (8 : Int32))])
    refine own_st (fun t_ k_ => XS.iconst X0.here hx rfl (hb hby d3_100) k_) ?_
    show own_Go p e below _ s₁ (mkF m 101 #[.val (.int (8 : Int32)), .val (.ref b)] [(.int (4 : Int32)), (.int (8 : Int32))])
    refine own_st (fun t_ k_ => XS.icmpYes X0.here hx rfl (pc0 := 101) (pc' := 139) rfl (hb hby d3_101) rfl (by decide) (by decide) (by decide) k_) ?_
    show own_Go p e below _ s₁ (mkF m 139 #[.val (.int (8 : Int32)), .val (.ref b)] [])
    refine own_st (fun t_ k_ => XS.iloadN X0.here hx rfl (hb hby d3_139) rfl k_) ?_
    show own_Go p e below _ s₁ (mkF m 140 #[.val (.int (8 : Int32)), .val (.ref b)] [(.int (8 : Int32))])
    refine own_st (fun t_ k_ => XS.iconst X0.here hx rfl (hb hby d3_140) k_) ?_
    show own_Go p e below _ s₁ (mkF m 141 #[.val (.int (8 : Int32)), .val (.ref b)] [(.int (5 : Int32)), (.int (8 : Int32))])
    refine own_st (fun t_ k_ => XS.icmpYes X0.here hx rfl (pc0 := 141) (pc' := 185) rfl (hb hby d3_141) rfl (by decide) (by decide) (by decide) k_) ?_
    show own_Go p e below _ s₁ (mkF m 185 #[.val (.int (8 : Int32)), .val (.ref b)] [])
    refine own_st (fun t_ k_ => XS.iloadN X0.here hx rfl (hb hby d3_185) rfl k_) ?_
    show own_Go p e below _ s₁ (mkF m 186 #[.val (.int (8 : Int32)), .val (.ref b)] [(.int (8 : Int32))])
    refine own_st (fun t_ k_ => XS.bipush X0.here hx rfl (hb hby d3_186) k_) ?_
    show own_Go p e below _ s₁ (mkF m 188 #[.val (.int (8 : Int32)), .val (.ref b)] [(.int (6 : Int32)), (.int (8 : Int32))])
    refine own_st (fun t_ k_ => XS.icmpYes X0.here hx rfl (pc0 := 188) (pc' := 239) rfl (hb hby d3_188) rfl (by decide) (by decide) (by decide) k_) ?_
    show own_Go p e below _ s₁ (mkF m 239 #[.val (.int (8 : Int32)), .val (.ref b)] [])
    refine own_st (fun t_ k_ => XS.iloadN X0.here hx rfl (hb hby d3_239) rfl k_) ?_
    show own_Go p e below _ s₁ (mkF m 240 #[.val (.int (8 : Int32)), .val (.ref b)] [(.int (8 : Int32))])
    refine own_st (fun t_ k_ => XS.bipush X0.here hx rfl (hb hby d3_240) k_) ?_
    show own_Go p e below _ s₁ (mkF m 242 #[.val (.int (8 : Int32)), .val (.ref b)] [(.int (7 : Int32)), (.int (8 : Int32))])
    refine own_st (fun t_ k_ => XS.icmpYes X0.here hx rfl (pc0 := 242) (pc' := 301) rfl (hb hby d3_242) rfl (by decide) (by decide) (by decide) k_) ?_
    show own_Go p e below _ s₁ (mkF m 301 #[.val (.int (8 : Int32)), .val (.ref b)] [])
    obtain ⟨T1, h1, X1, e1, E1, A1, D1, cel1, st1⟩ := newO X0 hx hZ hown (hw _ (List.mem_of_getElem? (i := 7) rfl)) (hw _ (List.mem_of_getElem? (i := 8) rfl)) (hw _ (List.mem_of_getElem? (i := 9) rfl)) e0 (g := (mkF m 301 #[.val (.int (8 : Int32)), .val (.ref b)] [])) rfl (hb hby d3_301) (by decide) (by decide)
    obtain ⟨nb1, g1⟩ : ∃ z, z = h0.size := ⟨_, rfl⟩
    rw [← g1] at A1 D1 cel1 st1
    refine own_st st1 ?_
    have g_nb1 : n0 ≤ nb1 := Nat.le_trans (Nat.le_trans Z0 (Keep.refl h0 []).1) (Nat.le_of_eq g1.symm)
    have K1 : Keep h0 h1 [] := (Keep.refl h0 []).ext E1
    have sz_nb1 : h0.size ≤ nb1 := Nat.le_trans (Keep.refl h0 []).1 (Nat.le_of_eq g1.symm)
    have B1 := own_Bk.ext E1 B0
    have Sf1 := Safe.ext E1 (own_Bk.ch B0) (Safe.new (Nat.le_of_eq g1.symm))
    have F1_coder : Fld Z h1 nb1 "java/lang/String" "coder" "B" (.int (0 : Int32)) := D1 (Or.inr (hw _ (List.mem_of_getElem? (i := 33) rfl))) (ty := .byte) (by decide)
    have F1_value : Fld Z h1 nb1 "java/lang/String" "value" "[B" .null := D1 (Or.inr (hw _ (List.mem_of_getElem? (i := 35) rfl))) (ty := (.array .byte)) (by decide)
    show own_Go p e below _ T1 (mkF m 304 #[.val (.int (8 : Int32)), .val (.ref b)] [(.ref nb1)])
    refine own_st (fun t_ k_ => XS.dup X1.here hx rfl (hb hby d3_304) rfl rfl k_) ?_
    show own_Go p e below _ T1 (mkF m 305 #[.val (.int (8 : Int32)), .val (.ref b)] [(.ref nb1), (.ref nb1)])
    refine own_st (fun t_ k_ => XS.bipush X1.here hx rfl (hb hby d3_305) k_) ?_
    show own_Go p e below _ T1 (mkF m 307 #[.val (.int (8 : Int32)), .val (.ref b)] [(.int (8 : Int32)), (.ref nb1), (.ref nb1)])
    obtain ⟨T2, h2, k2, X2, e2, E2, A2, st2⟩ := newP X1 hx hZ (hw _ (List.mem_of_getElem? (i := 1) rfl)) e1 (g := (mkF m 307 #[.val (.int (8 : Int32)), .val (.ref b)] [(.int (8 : Int32)), (.ref nb1), (.ref nb1)])) rfl (hb hby d3_307) rfl (by decide) (cap := 8) (by decide) (by decide) (by decide) (by decide)
    obtain ⟨nb2, g2⟩ : ∃ z, z = h1.size := ⟨_, rfl⟩
    rw [← g2] at A2 st2
    refine own_st st2 ?_
    have g_nb2 : n0 ≤ nb2 := Nat.le_trans (Nat.le_trans Z0 K1.1) (Nat.le_of_eq g2.symm)
    have K2 : Keep h0 h2 [] := K1.ext E2
    have sz_nb2 : h0.size ≤ nb2 := Nat.le_trans K1.1 (Nat.le_of_eq g2.symm)
    have B2 := own_Bk.ext E2 B1
    have Sf2 := Safe.ext E2 (own_Bk.ch B1) (Safe.new (Nat.le_of_eq g2.symm))
    have V2 : Arv Z h2 nb2 k2 .char (8 : Int32) [(.int (0 : Int32)), (.int (0 : Int32)), (.int (0 : Int32)), (.int (0 : Int32)), (.int (0 : Int32)), (.int (0 : Int32)), (.int (0 : Int32)), (.int (0 : Int32))] (.int (0 : Int32)) := (Arv.new A2 (by decide)).pad (pad_rep [] (.int (0 : Int32)) 8)
    show own_Go p e below _ T2 (mkF m 309 #[.val (.int (8 : Int32)), .val (.ref b)] [(.ref nb2), (.ref nb1), (.ref nb1)])
    refine own_st (fun t_ k_ => XS.dup X2.here hx rfl (hb hby d3_309) rfl rfl k_) ?_
    show own_Go p e below _ T2 (mkF m 310 #[.val (.int (8 : Int32)), .val (.ref b)] [(.ref nb2), (.ref nb2), (.ref nb1), (.ref nb1)])
    refine own_st (fun t_ k_ => XS.iconst X2.here hx rfl (hb hby d3_310) k_) ?_
    show own_Go p e below _ T2 (mkF m 311 #[.val (.int (8 : Int32)), .val (.ref b)] [(.int (0 : Int32)), (.ref nb2), (.ref nb2), (.ref nb1), (.ref nb1)])
    refine own_st (fun t_ k_ => XS.aloadN X2.here hx rfl (hb hby d3_311) rfl rfl k_) ?_
    show own_Go p e below _ T2 (mkF m 312 #[.val (.int (8 : Int32)), .val (.ref b)] [(.ref b), (.int (0 : Int32)), (.ref nb2), (.ref nb2), (.ref nb1), (.ref nb1)])
    refine own_st (fun t_ k_ => XS.iconst X2.here hx rfl (hb hby d3_312) k_) ?_
    show own_Go p e below _ T2 (mkF m 313 #[.val (.int (8 : Int32)), .val (.ref b)] [(.int (0 : Int32)), (.ref b), (.int (0 : Int32)), (.ref nb2), (.ref nb2), (.ref nb1), (.ref nb1)])
    have f4 := (Ab.ext E1)
    have f5 := (f4.ext E2)
    obtain ⟨cl3, Ar3, q3, S3, N3', H3, G3⟩ := id f5
    have hin3 : ¬ ((0 : Int32) < 0 ∨ cl3.slots.size ≤ ((0 : Int32)).toNatClampNeg) := inb_of S3 ⟨by decide, by decide⟩
    refine own_st (fun t_ k_ => X2.caload hx (j := (0 : Int32)) (v := (.int x0)) (by rw [e2]; exact Ar3.1) (State.isArrayOf_alike hZ.alike Ar3.2.1) Ar3.2.2 hin3 (Has.at H3 hin3 rfl) (g := (mkF m 313 #[.val (.int (8 : Int32)), .val (.ref b)] [(.int (0 : Int32)), (.ref b), (.int (0 : Int32)), (.ref nb2), (.ref nb2), (.ref nb1), (.ref nb1)])) rfl rfl (hb hby d3_313) t_ k_) ?_
    show own_Go p e below _ T2 (mkF m 314 #[.val (.int (8 : Int32)), .val (.ref b)] [(.int x0), (.int (0 : Int32)), (.ref nb2), (.ref nb2), (.ref nb1), (.ref nb1)])
    obtain ⟨cl6, Ar6, q6, S6, N6', H6, G6⟩ := id V2
    have hin6 : ¬ ((0 : Int32) < 0 ∨ cl6.slots.size ≤ ((0 : Int32)).toNatClampNeg) := inb_of S6 ⟨by decide, by decide⟩
    obtain ⟨T6, h6, X6, e6, W6, st6⟩ := stC X2 hx hZ e2 Ar6 (j := (0 : Int32)) hin6 (g := (mkF m 314 #[.val (.int (8 : Int32)), .val (.ref b)] [(.int x0), (.int (0 : Int32)), (.ref nb2), (.ref nb2), (.ref nb1), (.ref nb1)])) rfl rfl (hb hby d3_314)
    have V6 : Arv Z h6 nb2 k2 .char (8 : Int32) [(.int (nar .char x0)), (.int (0 : Int32)), (.int (0 : Int32)), (.int (0 : Int32)), (.int (0 : Int32)), (.int (0 : Int32)), (.int (0 : Int32)), (.int (0 : Int32))] (.int (0 : Int32)) := Arv.set Ar6 q6 S6 N6' H6 G6 (fits_nar_char _) W6 0 rfl (Nat.le_of_ble_eq_true rfl)
    refine own_st st6 ?_
    have Sw6 := Sf2
    have B6 := own_Bk.wr W6 Sw6 B2
    have N6 := Fr.snoc X6 N0 g_nb2
    have K6 : Keep h0 h6 [] := K2.wr W6 (Or.inr sz_nb2)
    show own_Go p e below _ T6 (mkF m 315 #[.val (.int (8 : Int32)), .val (.ref b)] [(.ref nb2), (.ref nb1), (.ref nb1)])
    refine own_st (fun t_ k_ => XS.dup X6.here hx rfl (hb hby d3_315) rfl rfl k_) ?_
    show own_Go p e below _ T6 (mkF m 316 #[.val (.int (8 : Int32)), .val (.ref b)] [(.ref nb2), (.ref nb2), (.ref nb1), (.ref nb1)])
    refine own_st (fun t_ k_ => XS.iconst X6.here hx rfl (hb hby d3_316) k_) ?_
    show own_Go p e below _ T6 (mkF m 317 #[.val (.int (8 : Int32)), .val (.ref b)] [(.int (1 : Int32)), (.ref nb2), (.ref nb2), (.ref nb1), (.ref nb1)])
    refine own_st (fun t_ k_ => XS.aloadN X6.here hx rfl (hb hby d3_317) rfl rfl k_) ?_
    show own_Go p e below _ T6 (mkF m 318 #[.val (.int (8 : Int32)), .val (.ref b)] [(.ref b), (.int (1 : Int32)), (.ref nb2), (.ref nb2), (.ref nb1), (.ref nb1)])
    refine own_st (fun t_ k_ => XS.iconst X6.here hx rfl (hb hby d3_318) k_) ?_
    show own_Go p e below _ T6 (mkF m 319 #[.val (.int (8 : Int32)), .val (.ref b)] [(.int (1 : Int32)), (.ref b), (.int (1 : Int32)), (.ref nb2), (.ref nb2), (.ref nb1), (.ref nb1)])
    have ne8 : b ≠ nb2 := (Nat.ne_of_lt (Nat.lt_of_lt_of_le f4.lt (Nat.le_of_eq g2.symm)))
    have f9 := (f5.other W6 ne8)
    obtain ⟨cl7, Ar7, q7, S7, N7', H7, G7⟩ := id f9
    have hin7 : ¬ ((1 : Int32) < 0 ∨ cl7.slots.size ≤ ((1 : Int32)).toNatClampNeg) := inb_of S7 ⟨by decide, by decide⟩
    refine own_st (fun t_ k_ => X6.caload hx (j := (1 : Int32)) (v := (.int x1)) (by rw [e6]; exact Ar7.1) (State.isArrayOf_alike hZ.alike Ar7.2.1) Ar7.2.2 hin7 (Has.at H7 hin7 rfl) (g := (mkF m 319 #[.val (.int (8 : Int32)), .val (.ref b)] [(.int (1 : Int32)), (.ref b), (.int (1 : Int32)), (.ref nb2), (.ref nb2), (.ref nb1), (.ref nb1)])) rfl rfl (hb hby d3_319) t_ k_) ?_
    show own_Go p e below _ T6 (mkF m 320 #[.val (.int (8 : Int32)), .val (.ref b)] [(.int x1), (.int (1 : Int32)), (.ref nb2), (.ref nb2), (.ref nb1), (.ref nb1)])
    obtain ⟨cl10, Ar10, q10, S10, N10', H10, G10⟩ := id V6
    have hin10 : ¬ ((1 : Int32) < 0 ∨ cl10.slots.size ≤ ((1 : Int32)).toNatClampNeg) := inb_of S10 ⟨by decide, by decide⟩
    obtain ⟨T10, h10, X10, e10, W10, st10⟩ := stC X6 hx hZ e6 Ar10 (j := (1 : Int32)) hin10 (g := (mkF m 320 #[.val (.int (8 : Int32)), .val (.ref b)] [(.int x1), (.int (1 : Int32)), (.ref nb2), (.ref nb2), (.ref nb1), (.ref nb1)])) rfl rfl (hb hby d3_320)
    have V10 : Arv Z h10 nb2 k2 .char (8 : Int32) [(.int (nar .char x0)), (.int (nar .char x1)), (.int (0 : Int32)), (.int (0 : Int32)), (.int (0 : Int32)), (.int (0 : Int32)), (.int (0 : Int32)), (.int (0 : Int32))] (.int (0 : Int32)) := Arv.set Ar10 q10 S10 N10' H10 G10 (fits_nar_char _) W10 1 rfl (Nat.le_of_ble_eq_true rfl)
    refine own_st st10 ?_
    have f11 := (Safe.wr W6 Sw6 (own_Bk.ch B2) Sf2)
    have Sw10 := f11
    have B10 := own_Bk.wr W10 Sw10 B6
    have N10 := Fr.snoc X10 N6 g_nb2
    have K10 : Keep h0 h10 [] := K6.wr W10 (Or.inr sz_nb2)
    show own_Go p e below _ T10 (mkF m 321 #[.val (.int (8 : Int32)), .val (.ref b)] [(.ref nb2), (.ref nb1), (.ref nb1)])
    refine own_st (fun t_ k_ => XS.dup X10.here hx rfl (hb hby d3_321) rfl rfl k_) ?_
    show own_Go p e below _ T10 (mkF m 322 #[.val (.int (8 : Int32)), .val (.ref b)] [(.ref nb2), (.ref nb2), (.ref nb1), (.ref nb1)])
    refine own_st (fun t_ k_ => XS.iconst X10.here hx rfl (hb hby d3_322) k_) ?_
    show own_Go p e below _ T10 (mkF m 323 #[.val (.int (8 : Int32)), .val (.ref b)] [(.int (2 : Int32)), (.ref nb2), (.ref nb2), (.ref nb1), (.ref nb1)])
    refine own_st (fun t_ k_ => XS.aloadN X10.here hx rfl (hb hby d3_323) rfl rfl k_) ?_
    show own_Go p e below _ T10 (mkF m 324 #[.val (.int (8 : Int32)), .val (.ref b)] [(.ref b), (.int (2 : Int32)), (.ref nb2), (.ref nb2), (.ref nb1), (.ref nb1)])
    refine own_st (fun t_ k_ => XS.iconst X10.here hx rfl (hb hby d3_324) k_) ?_
    show own_Go p e below _ T10 (mkF m 325 #[.val (.int (8 : Int32)), .val (.ref b)] [(.int (2 : Int32)), (.ref b), (.int (2 : Int32)), (.ref nb2), (.ref nb2), (.ref nb1), (.ref nb1)])
    have f13 := (f5.other W6 ne8)
    have f14 := (f13.other W10 ne8)
    obtain ⟨cl12, Ar12, q12, S12, N12', H12, G12⟩ := id f14
    have hin12 : ¬ ((2 : Int32) < 0 ∨ cl12.slots.size ≤ ((2 : Int32)).toNatClampNeg) := inb_of S12 ⟨by decide, by decide⟩
    refine own_st (fun t_ k_ => X10.caload hx (j := (2 : Int32)) (v := (.int x2)) (by rw [e10]; exact Ar12.1) (State.isArrayOf_alike hZ.alike Ar12.2.1) Ar12.2.2 hin12 (Has.at H12 hin12 rfl) (g := (mkF m 325 #[.val (.int (8 : Int32)), .val (.ref b)] [(.int (2 : Int32)), (.ref b), (.int (2 : Int32)), (.ref nb2), (.ref nb2), (.ref nb1), (.ref nb1)])) rfl rfl (hb hby d3_325) t_ k_) ?_
    show own_Go p e below _ T10 (mkF m 326 #[.val (.int (8 : Int32)), .val (.ref b)] [(.int x2), (.int (2 : Int32)), (.ref nb2), (.ref nb2), (.ref nb1), (.ref nb1)])
    obtain ⟨cl15, Ar15, q15, S15, N15', H15, G15⟩ := id V10
    have hin15 : ¬ ((2 : Int32) < 0 ∨ cl15.slots.size ≤ ((2 : Int32)).toNatClampNeg) := inb_of S15 ⟨by decide, by decide⟩
    obtain ⟨T15, h15, X15, e15, W15, st15⟩ := stC X10 hx hZ e10 Ar15 (j := (2 : Int32)) hin15 (g := (mkF m 326 #[.val (.int (8 : Int32)), .val (.ref b)] [(.int x2), (.int (2 : Int32)), (.ref nb2), (.ref nb2), (.ref nb1), (.ref nb1)])) rfl rfl (hb hby d3_326)
    have V15 : Arv Z h15 nb2 k2 .char (8 : Int32) [(.int (nar .char x0)), (.int (nar .char x1)), (.int (nar .char x2)), (.int (0 : Int32)), (.int (0 : Int32)), (.int (0 : Int32)), (.int (0 : Int32)), (.int (0 : Int32))] (.int (0 : Int32)) := Arv.set Ar15 q15 S15 N15' H15 G15 (fits_nar_char _) W15 2 rfl (Nat.le_of_ble_eq_true rfl)
    refine own_st st15 ?_
    have f16 := (Safe.wr W10 Sw10 (own_Bk.ch B6) f11)
    have Sw15 := f16
    have B15 := own_Bk.wr W15 Sw15 B10
    have N15 := Fr.snoc X15 N10 g_nb2
    have K15 : Keep h0 h15 [] := K10.wr W15 (Or.inr sz_nb2)
    show own_Go p e below _ T15 (mkF m 327 #[.val (.int (8 : Int32)), .val (.ref b)] [(.ref nb2), (.ref nb1), (.ref nb1)])
    refine own_st (fun t_ k_ => XS.dup X15.here hx rfl (hb hby d3_327) rfl rfl k_) ?_
    show own_Go p e below _ T15 (mkF m 328 #[.val (.int (8 : Int32)), .val (.ref b)] [(.ref nb2), (.ref nb2), (.ref nb1), (.ref nb1)])
    refine own_st (fun t_ k_ => XS.iconst X15.here hx rfl (hb hby d3_328) k_) ?_
    show own_Go p e below _ T15 (mkF m 329 #[.val (.int (8 : Int32)), .val (.ref b)] [(.int (3 : Int32)), (.ref nb2), (.ref nb2), (.ref nb1), (.ref nb1)])
    refine own_st (fun t_ k_ => XS.aloadN X15.here hx rfl (hb hby d3_329) rfl rfl k_) ?_
    show own_Go p e below _ T15 (mkF m 330 #[.val (.int (8 : Int32)), .val (.ref b)] [(.ref b), (.int (3 : Int32)), (.ref nb2), (.ref nb2), (.ref nb1), (.ref nb1)])
    refine own_st (fun t_ k_ => XS.iconst X15.here hx rfl (hb hby d3_330) k_) ?_
    show own_Go p e below _ T15 (mkF m 331 #[.val (.int (8 : Int32)), .val (.ref b)] [(.int (3 : Int32)), (.ref b), (.int (3 : Int32)), (.ref nb2), (.ref nb2), (.ref nb1), (.ref nb1)])
    have f18 := (f14.other W15 ne8)
    obtain ⟨cl17, Ar17, q17, S17, N17', H17, G17⟩ := id f18
    have hin17 : ¬ ((3 : Int32) < 0 ∨ cl17.slots.size ≤ ((3 : Int32)).toNatClampNeg) := inb_of S17 ⟨by decide, by decide⟩
    refine own_st (fun t_ k_ => X15.caload hx (j := (3 : Int32)) (v := (.int x3)) (by rw [e15]; exact Ar17.1) (State.isArrayOf_alike hZ.alike Ar17.2.1) Ar17.2.2 hin17 (Has.at H17 hin17 rfl) (g := (mkF m 331 #[.val (.int (8 : Int32)), .val (.ref b)] [(.int (3 : Int32)), (.ref b), (.int (3 : Int32)), (.ref nb2), (.ref nb2), (.ref nb1), (.ref nb1)])) rfl rfl (hb hby d3_331) t_ k_) ?_
    show own_Go p e below _ T15 (mkF m 332 #[.val (.int (8 : Int32)), .val (.ref b)] [(.int x3), (.int (3 : Int32)), (.ref nb2), (.ref nb2), (.ref nb1), (.ref nb1)])
    obtain ⟨cl19, Ar19, q19, S19, N19', H19, G19⟩ := id V15
    have hin19 : ¬ ((3 : Int32) < 0 ∨ cl19.slots.size ≤ ((3 : Int32)).toNatClampNeg) := inb_of S19 ⟨by decide, by decide⟩
    obtain ⟨T19, h19, X19, e19, W19, st19⟩ := stC X15 hx hZ e15 Ar19 (j := (3 : Int32)) hin19 (g := (mkF m 332 #[.val (.int (8 : Int32)), .val (.ref b)] [(.int x3), (.int (3 : Int32)), (.ref nb2), (.ref nb2), (.ref nb1), (.ref nb1)])) rfl rfl (hb hby d3_332)
    have V19 : Arv Z h19 nb2 k2 .char (8 : Int32) [(.int (nar .char x0)), (.int (nar .char x1)), (.int (nar .char x2)), (.int (nar .char x3)), (.int (0 : Int32)), (.int (0 : Int32)), (.int (0 : Int32)), (.int (0 : Int32))] (.int (0 : Int32)) := Arv.set Ar19 q19 S19 N19' H19 G19 (fits_nar_char _) W19 3 rfl (Nat.le_of_ble_eq_true rfl)
    refine own_st st19 ?_
    have f20 := (Safe.wr W15 Sw15 (own_Bk.ch B10) f16)
    have Sw19 := f20
    have B19 := own_Bk.wr W19 Sw19 B15
    have N19 := Fr.snoc X19 N15 g_nb2
    have K19 : Keep h0 h19 [] := K15.wr W19 (Or.inr sz_nb2)
    show own_Go p e below _ T19 (mkF m 333 #[.val (.int (8 : Int32)), .val (.ref b)] [(.ref nb2), (.ref nb1), (.ref nb1)])
    refine own_st (fun t_ k_ => XS.dup X19.here hx rfl (hb hby d3_333) rfl rfl k_) ?_
    show own_Go p e below _ T19 (mkF m 334 #[.val (.int (8 : Int32)), .val (.ref b)] [(.ref nb2), (.ref nb2), (.ref nb1), (.ref nb1)])
    refine own_st (fun t_ k_ => XS.iconst X19.here hx rfl (hb hby d3_334) k_) ?_
    show own_Go p e below _ T19 (mkF m 335 #[.val (.int (8 : Int32)), .val (.ref b)] [(.int (4 : Int32)), (.ref nb2), (.ref nb2), (.ref nb1), (.ref nb1)])
    refine own_st (fun t_ k_ => XS.aloadN X19.here hx rfl (hb hby d3_335) rfl rfl k_) ?_
    show own_Go p e below _ T19 (mkF m 336 #[.val (.int (8 : Int32)), .val (.ref b)] [(.ref b), (.int (4 : Int32)), (.ref nb2), (.ref nb2), (.ref nb1), (.ref nb1)])
    refine own_st (fun t_ k_ => XS.iconst X19.here hx rfl (hb hby d3_336) k_) ?_
    show own_Go p e below _ T19 (mkF m 337 #[.val (.int (8 : Int32)), .val (.ref b)] [(.int (4 : Int32)), (.ref b), (.int (4 : Int32)), (.ref nb2), (.ref nb2), (.ref nb1), (.ref nb1)])
    have f22 := (f18.other W19 ne8)
    obtain ⟨cl21, Ar21, q21, S21, N21', H21, G21⟩ := id f22
    have hin21 : ¬ ((4 : Int32) < 0 ∨ cl21.slots.size ≤ ((4 : Int32)).toNatClampNeg) := inb_of S21 ⟨by decide, by decide⟩
    refine own_st (fun t_ k_ => X19.caload hx (j := (4 : Int32)) (v := (.int x4)) (by rw [e19]; exact Ar21.1) (State.isArrayOf_alike hZ.alike Ar21.2.1) Ar21.2.2 hin21 (Has.at H21 hin21 rfl) (g := (mkF m 337 #[.val (.int (8 : Int32)), .val (.ref b)] [(.int (4 : Int32)), (.ref b), (.int (4 : Int32)), (.ref nb2), (.ref nb2), (.ref nb1), (.ref nb1)])) rfl rfl (hb hby d3_337) t_ k_) ?_
    show own_Go p e below _ T19 (mkF m 338 #[.val (.int (8 : Int32)), .val (.ref b)] [(.int x4), (.int (4 : Int32)), (.ref nb2), (.ref nb2), (.ref nb1), (.ref nb1)])
    obtain ⟨cl23, Ar23, q23, S23, N23', H23, G23⟩ := id V19
    have hin23 : ¬ ((4 : Int32) < 0 ∨ cl23.slots.size ≤ ((4 : Int32)).toNatClampNeg) := inb_of S23 ⟨by decide, by decide⟩
    obtain ⟨T23, h23, X23, e23, W23, st23⟩ := stC X19 hx hZ e19 Ar23 (j := (4 : Int32)) hin23 (g := (mkF m 338 #[.val (.int (8 : Int32)), .val (.ref b)] [(.int x4), (.int (4 : Int32)), (.ref nb2), (.ref nb2), (.ref nb1), (.ref nb1)])) rfl rfl (hb hby d3_338)
    have V23 : Arv Z h23 nb2 k2 .char (8 : Int32) [(.int (nar .char x0)), (.int (nar .char x1)), (.int (nar .char x2)), (.int (nar .char x3)), (.int (nar .char x4)), (.int (0 : Int32)), (.int (0 : Int32)), (.int (0 : Int32))] (.int (0 : Int32)) := Arv.set Ar23 q23 S23 N23' H23 G23 (fits_nar_char _) W23 4 rfl (Nat.le_of_ble_eq_true rfl)
    refine own_st st23 ?_
    have f24 := (Safe.wr W19 Sw19 (own_Bk.ch B15) f20)
    have Sw23 := f24
    have B23 := own_Bk.wr W23 Sw23 B19
    have N23 := Fr.snoc X23 N19 g_nb2
    have K23 : Keep h0 h23 [] := K19.wr W23 (Or.inr sz_nb2)
    show own_Go p e below _ T23 (mkF m 339 #[.val (.int (8 : Int32)), .val (.ref b)] [(.ref nb2), (.ref nb1), (.ref nb1)])
    refine own_st (fun t_ k_ => XS.dup X23.here hx rfl (hb hby d3_339) rfl rfl k_) ?_
    show own_Go p e below _ T23 (mkF m 340 #[.val (.int (8 : Int32)), .val (.ref b)] [(.ref nb2), (.ref nb2), (.ref nb1), (.ref nb1)])
    refine own_st (fun t_ k_ => XS.iconst X23.here hx rfl (hb hby d3_340) k_) ?_
    show own_Go p e below _ T23 (mkF m 341 #[.val (.int (8 : Int32)), .val (.ref b)] [(.int (5 : Int32)), (.ref nb2), (.ref nb2), (.ref nb1), (.ref nb1)])
    refine own_st (fun t_ k_ => XS.aloadN X23.here hx rfl (hb hby d3_341) rfl rfl k_) ?_
    show own_Go p e below _ T23 (mkF m 342 #[.val (.int (8 : Int32)), .val (.ref b)] [(.ref b), (.int (5 : Int32)), (.ref nb2), (.ref nb2), (.ref nb1), (.ref nb1)])
    refine own_st (fun t_ k_ => XS.iconst X23.here hx rfl (hb hby d3_342) k_) ?_
    show own_Go p e below _ T23 (mkF m 343 #[.val (.int (8 : Int32)), .val (.ref b)] [(.int (5 : Int32)), (.ref b), (.int (5 : Int32)), (.ref nb2), (.ref nb2), (.ref nb1), (.ref nb1)])
    have f26 := (f22.other W23 ne8)
    obtain ⟨cl25, Ar25, q25, S25, N25', H25, G25⟩ := id f26
    have hin25 : ¬ ((5 : Int32) < 0 ∨ cl25.slots.size ≤ ((5 : Int32)).toNatClampNeg) := inb_of S25 ⟨by decide, by decide⟩
    refine own_st (fun t_ k_ => X23.caload hx (j := (5 : Int32)) (v := (.int x5)) (by rw [e23]; exact Ar25.1) (State.isArrayOf_alike hZ.alike Ar25.2.1) Ar25.2.2 hin25 (Has.at H25 hin25 rfl) (g := (mkF m 343 #[.val (.int (8 : Int32)), .val (.ref b)] [(.int (5 : Int32)), (.ref b), (.int (5 : Int32)), (.ref nb2), (.ref nb2), (.ref nb1), (.ref nb1)])) rfl rfl (hb hby d3_343) t_ k_) ?_
    show own_Go p e below _ T23 (mkF m 344 #[.val (.int (8 : Int32)), .val (.ref b)] [(.int x5), (.int (5 : Int32)), (.ref nb2), (.ref nb2), (.ref nb1), (.ref nb1)])
    obtain ⟨cl27, Ar27, q27, S27, N27', H27, G27⟩ := id V23
    have hin27 : ¬ ((5 : Int32) < 0 ∨ cl27.slots.size ≤ ((5 : Int32)).toNatClampNeg) := inb_of S27 ⟨by decide, by decide⟩
    obtain ⟨T27, h27, X27, e27, W27, st27⟩ := stC X23 hx hZ e23 Ar27 (j := (5 : Int32)) hin27 (g := (mkF m 344 #[.val (.int (8 : Int32)), .val (.ref b)] [(.int x5), (.int (5 : Int32)), (.ref nb2), (.ref nb2), (.ref nb1), (.ref nb1)])) rfl rfl (hb hby d3_344)
    have V27 : Arv Z h27 nb2 k2 .char (8 : Int32) [(.int (nar .char x0)), (.int (nar .char x1)), (.int (nar .char x2)), (.int (nar .char x3)), (.int (nar .char x4)), (.int (nar .char x5)), (.int (0 : Int32)), (.int (0 : Int32))] (.int (0 : Int32)) := Arv.set Ar27 q27 S27 N27' H27 G27 (fits_nar_char _) W27 5 rfl (Nat.le_of_ble_eq_true rfl)
    refine own_st st27 ?_
    have f28 := (Safe.wr W23 Sw23 (own_Bk.ch B19) f24)
    have Sw27 := f28
    have B27 := own_Bk.wr W27 Sw27 B23
    have N27 := Fr.snoc X27 N23 g_nb2
    have K27 : Keep h0 h27 [] := K23.wr W27 (Or.inr sz_nb2)
    show own_Go p e below _ T27 (mkF m 345 #[.val (.int (8 : Int32)), .val (.ref b)] [(.ref nb2), (.ref nb1), (.ref nb1)])
    refine own_st (fun t_ k_ => XS.dup X27.here hx rfl (hb hby d3_345) rfl rfl k_) ?_
    show own_Go p e below _ T27 (mkF m 346 #[.val (.int (8 : Int32)), .val (.ref b)] [(.ref nb2), (.ref nb2), (.ref nb1), (.ref nb1)])
    refine own_st (fun t_ k_ => XS.bipush X27.here hx rfl (hb hby d3_346) k_) ?_
    show own_Go p e below _ T27 (mkF m 348 #[.val (.int (8 : Int32)), .val (.ref b)] [(.int (6 : Int32)), (.ref nb2), (.ref nb2), (.ref nb1), (.ref nb1)])
    refine own_st (fun t_ k_ => XS.aloadN X27.here hx rfl (hb hby d3_348) rfl rfl k_) ?_
    show own_Go p e below _ T27 (mkF m 349 #[.val (.int (8 : Int32)), .val (.ref b)] [(.ref b), (.int (6 : Int32)), (.ref nb2), (.ref nb2), (.ref nb1), (.ref nb1)])
    refine own_st (fun t_ k_ => XS.bipush X27.here hx rfl (hb hby d3_349) k_) ?_
    show own_Go p e below _ T27 (mkF m 351 #[.val (.int (8 : Int32)), .val (.ref b)] [(.int (6 : Int32)), (.ref b), (.int (6 : Int32)), (.ref nb2), (.ref nb2), (.ref nb1), (.ref nb1)])
    have f30 := (f26.other W27 ne8)
    obtain ⟨cl29, Ar29, q29, S29, N29', H29, G29⟩ := id f30
    have hin29 : ¬ ((6 : Int32) < 0 ∨ cl29.slots.size ≤ ((6 : Int32)).toNatClampNeg) := inb_of S29 ⟨by decide, by decide⟩
    refine own_st (fun t_ k_ => X27.caload hx (j := (6 : Int32)) (v := (.int x6)) (by rw [e27]; exact Ar29.1) (State.isArrayOf_alike hZ.alike Ar29.2.1) Ar29.2.2 hin29 (Has.at H29 hin29 rfl) (g := (mkF m 351 #[.val (.int (8 : Int32)), .val (.ref b)] [(.int (6 : Int32)), (.ref b), (.int (6 : Int32)), (.ref nb2), (.ref nb2), (.ref nb1), (.ref nb1)])) rfl rfl (hb hby d3_351) t_ k_) ?_
    show own_Go p e below _ T27 (mkF m 352 #[.val (.int (8 : Int32)), .val (.ref b)] [(.int x6), (.int (6 : Int32)), (.ref nb2), (.ref nb2), (.ref nb1), (.ref nb1)])
    obtain ⟨cl31, Ar31, q31, S31, N31', H31, G31⟩ := id V27
    have hin31 : ¬ ((6 : Int32) < 0 ∨ cl31.slots.size ≤ ((6 : Int32)).toNatClampNeg) := inb_of S31 ⟨by decide, by decide⟩
    obtain ⟨T31, h31, X31, e31, W31, st31⟩ := stC X27 hx hZ e27 Ar31 (j := (6 : Int32)) hin31 (g := (mkF m 352 #[.val (.int (8 : Int32)), .val (.ref b)] [(.int x6), (.int (6 : Int32)), (.ref nb2), (.ref nb2), (.ref nb1), (.ref nb1)])) rfl rfl (hb hby d3_352)
    have V31 : Arv Z h31 nb2 k2 .char (8 : Int32) [(.int (nar .char x0)), (.int (nar .char x1)), (.int (nar .char x2)), (.int (nar .char x3)), (.int (nar .char x4)), (.int (nar .char x5)), (.int (nar .char x6)), (.int (0 : Int32))] (.int (0 : Int32)) := Arv.set Ar31 q31 S31 N31' H31 G31 (fits_nar_char _) W31 6 rfl (Nat.le_of_ble_eq_true rfl)
    refine own_st st31 ?_
    have f32 := (Safe.wr W27 Sw27 (own_Bk.ch B23) f28)
    have Sw31 := f32
    have B31 := own_Bk.wr W31 Sw31 B27
    have N31 := Fr.snoc X31 N27 g_nb2
    have K31 : Keep h0 h31 [] := K27.wr W31 (Or.inr sz_nb2)
    show own_Go p e below _ T31 (mkF m 353 #[.val (.int (8 : Int32)), .val (.ref b)] [(.ref nb2), (.ref nb1), (.ref nb1)])
    refine own_st (fun t_ k_ => XS.dup X31.here hx rfl (hb hby d3_353) rfl rfl k_) ?_
    show own_Go p e below _ T31 (mkF m 354 #[.val (.int (8 : Int32)), .val (.ref b)] [(.ref nb2), (.ref nb2), (.ref nb1), (.ref nb1)])
    refine own_st (fun t_ k_ => XS.bipush X31.here hx rfl (hb hby d3_354) k_) ?_
    show own_Go p e below _ T31 (mkF m 356 #[.val (.int (8 : Int32)), .val (.ref b)] [(.int (7 : Int32)), (.ref nb2), (.ref nb2), (.ref nb1), (.ref nb1)])
    refine own_st (fun t_ k_ => XS.aloadN X31.here hx rfl (hb hby d3_356) rfl rfl k_) ?_
    show own_Go p e below _ T31 (mkF m 357 #[.val (.int (8 : Int32)), .val (.ref b)] [(.ref b), (.int (7 : Int32)), (.ref nb2), (.ref nb2), (.ref nb1), (.ref nb1)])
    refine own_st (fun t_ k_ => XS.bipush X31.here hx rfl (hb hby d3_357) k_) ?_
    show own_Go p e below _ T31 (mkF m 359 #[.val (.int (8 : Int32)), .val (.ref b)] [(.int (7 : Int32)), (.ref b), (.int (7 : Int32)), (.ref nb2), (.ref nb2), (.ref nb1), (.ref nb1)])
    have f34 := (f30.other W31 ne8)
    obtain ⟨cl33, Ar33, q33, S33, N33', H33, G33⟩ := id f34
    have hin33 : ¬ ((7 : Int32) < 0 ∨ cl33.slots.size ≤ ((7 : Int32)).toNatClampNeg) := inb_of S33 ⟨by decide, by decide⟩
    refine own_st (fun t_ k_ => X31.caload hx (j := (7 : Int32)) (v := (.int x7)) (by rw [e31]; exact Ar33.1) (State.isArrayOf_alike hZ.alike Ar33.2.1) Ar33.2.2 hin33 (Has.at H33 hin33 rfl) (g := (mkF m 359 #[.val (.int (8 : Int32)), .val (.ref b)] [(.int (7 : Int32)), (.ref b), (.int (7 : Int32)), (.ref nb2), (.ref nb2), (.ref nb1), (.ref nb1)])) rfl rfl (hb hby d3_359) t_ k_) ?_
    show own_Go p e below _ T31 (mkF m 360 #[.val (.int (8 : Int32)), .val (.ref b)] [(.int x7), (.int (7 : Int32)), (.ref nb2), (.ref nb2), (.ref nb1), (.ref nb1)])
    obtain ⟨cl35, Ar35, q35, S35, N35', H35, G35⟩ := id V31
    have hin35 : ¬ ((7 : Int32) < 0 ∨ cl35.slots.size ≤ ((7 : Int32)).toNatClampNeg) := inb_of S35 ⟨by decide, by decide⟩
    obtain ⟨T35, h35, X35, e35, W35, st35⟩ := stC X31 hx hZ e31 Ar35 (j := (7 : Int32)) hin35 (g := (mkF m 360 #[.val (.int (8 : Int32)), .val (.ref b)] [(.int x7), (.int (7 : Int32)), (.ref nb2), (.ref nb2), (.ref nb1), (.ref nb1)])) rfl rfl (hb hby d3_360)
    have V35 : Arv Z h35 nb2 k2 .char (8 : Int32) [(.int (nar .char x0)), (.int (nar .char x1)), (.int (nar .char x2)), (.int (nar .char x3)), (.int (nar .char x4)), (.int (nar .char x5)), (.int (nar .char x6)), (.int (nar .char x7))] (.int (0 : Int32)) := Arv.set Ar35 q35 S35 N35' H35 G35 (fits_nar_char _) W35 7 rfl (Nat.le_of_ble_eq_true rfl)
    refine own_st st35 ?_
    have f36 := (Safe.wr W31 Sw31 (own_Bk.ch B27) f32)
    have Sw35 := f36
    have B35 := own_Bk.wr W35 Sw35 B31
    have N35 := Fr.snoc X35 N31 g_nb2
    have K35 : Keep h0 h35 [] := K31.wr W35 (Or.inr sz_nb2)
    show own_Go p e below _ T35 (mkF m 361 #[.val (.int (8 : Int32)), .val (.ref b)] [(.ref nb2), (.ref nb1), (.ref nb1)])
    have hp37 : ∀ c ∈ ([(nar .char x0), (nar .char x1), (nar .char x2), (nar .char x3), (nar .char x4), (nar .char x5), (nar .char x6), (nar .char x7)] : List Int32), ¬ c < 0 ∧ ¬ (255 : Int32) < c := (own_lcons (own_LLN hL0) (own_lcons (own_LLN hL1) (own_lcons (own_LLN hL2) (own_lcons (own_LLN hL3) (own_lcons (own_LLN hL4) (own_lcons (own_LLN hL5) (own_lcons (own_LLN hL6) (own_lcons (own_LLN hL7) own_lnil))))))))
    have f38 := (Exa.ext E2 A1)
    have f39 := (Exa.wr W6 f38)
    have f40 := (Exa.wr W10 f39)
    have f41 := (Exa.wr W15 f40)
    have f42 := (Exa.wr W19 f41)
    have f43 := (Exa.wr W23 f42)
    have f44 := (Exa.wr W27 f43)
    have f45 := (Exa.wr W31 f44)
    have f46 := (Exa.wr W35 f45)
    have f47 := (Fld.ext E2 F1_value)
    have ne48 : nb1 ≠ nb2 := (Nat.ne_of_lt (Nat.lt_of_lt_of_le A1.lt (Nat.le_of_eq g2.symm)))
    have f49 := (Fld.other W6 f47 (Or.inl ne48))
    have f50 := (Fld.other W10 f49 (Or.inl ne48))
    have f51 := (Fld.other W15 f50 (Or.inl ne48))
    have f52 := (Fld.other W19 f51 (Or.inl ne48))
    have f53 := (Fld.other W23 f52 (Or.inl ne48))
    have f54 := (Fld.other W27 f53 (Or.inl ne48))
    have f55 := (Fld.other W31 f54 (Or.inl ne48))
    have f56 := (Fld.other W35 f55 (Or.inl ne48))
    have f57 := (Fld.ext E2 F1_coder)
    have f58 := (Fld.other W6 f57 (Or.inl ne48))
    have f59 := (Fld.other W10 f58 (Or.inl ne48))
    have f60 := (Fld.other W15 f59 (Or.inl ne48))
    have f61 := (Fld.other W19 f60 (Or.inl ne48))
    have f62 := (Fld.other W23 f61 (Or.inl ne48))
    have f63 := (Fld.other W27 f62 (Or.inl ne48))
    have f64 := (Fld.other W31 f63 (Or.inl ne48))
    have f65 := (Fld.other W35 f64 (Or.inl ne48))
    have f66 := (O0.ext E1)
    have f67 := (f66.ext E2)
    have f68 := (f67.wr W6 g_nb2)
    have f69 := (f68.wr W10 g_nb2)
    have f70 := (f69.wr W15 g_nb2)
    have f71 := (f70.wr W19 g_nb2)
    have f72 := (f71.wr W23 g_nb2)
    have f73 := (f72.wr W27 g_nb2)
    have f74 := (f73.wr W31 g_nb2)
    have f75 := (f74.wr W35 g_nb2)
    refine own_callN X35 hx (y := (⟨"java/lang/String", "<init>", "([C)V"⟩ : MethodName)) rfl hown (mvT hZ (hw _ (List.mem_of_getElem? (i := 10) rfl))) (mvT hZ (hw _ (List.mem_of_getElem? (i := 11) rfl))) (mvT hZ (hw _ (List.mem_of_getElem? (i := 12) rfl))) (by decide) (StrChars.Road.backV (W := 1) hZ (own_words hw) (kI := 4) (hw _ (List.mem_of_getElem? (i := 8) rfl)) (cs := ([(nar .char x0), (nar .char x1), (nar .char x2), (nar .char x3), (nar .char x4), (nar .char x5), (nar .char x6), (nar .char x7)] : List Int32)) (bs := ([(nar .char x0), (nar .char x1), (nar .char x2), (nar .char x3), (nar .char x4), (nar .char x5), (nar .char x6), (nar .char x7)] : List Int32).map (fun c => c.toInt8.toInt32)) (n := 8) g_nb1 (Nat.le_trans Z0 K35.1) f46 f56 f65 V35 (Sta.ext f75.2 SC) hCS rfl rfl (by decide) (by decide) hp37 rfl (by decide) (by decide)) (a := nb1) (g := (mkF m 361 #[.val (.int (8 : Int32)), .val (.ref b)] [(.ref nb2), (.ref nb1), (.ref nb1)])) rfl (by rw [hml]; rfl) (argsL := [(.ref nb2)]) (rest := [(.ref nb1)]) (lenOf pd_1 rfl) rfl (by show 2 * 0 + _ ≤ _; exact Nat.le_of_eq rfl) (hb hby d3_361) rfl e35 (by decide) (by decide) ?_
    rintro v37 T37 L37 X37 ⟨rfl, Nq37, Kq37, Eq37, Cq37, t37, kb37, g_t37, gt37, nt37, Vq37, Aq37⟩
    have sz_t37 : h0.size ≤ t37 := Nat.le_trans K35.1 gt37
    have N37 := Fr.app N35 Nq37
    have K37 : Keep h0 T37.heap [] := K35.trans Kq37 (allS (Or.inr sz_nb1) all0)
    have f76 := (Safe.ext E2 (own_Bk.ch B1) Sf1)
    have f77 := (Safe.wr W6 Sw6 (own_Bk.ch B2) f76)
    have f78 := (Safe.wr W10 Sw10 (own_Bk.ch B6) f77)
    have f79 := (Safe.wr W15 Sw15 (own_Bk.ch B10) f78)
    have f80 := (Safe.wr W19 Sw19 (own_Bk.ch B15) f79)
    have f81 := (Safe.wr W23 Sw23 (own_Bk.ch B19) f80)
    have f82 := (Safe.wr W27 Sw27 (own_Bk.ch B23) f81)
    have f83 := (Safe.wr W31 Sw31 (own_Bk.ch B27) f82)
    have f84 := (Safe.wr W35 Sw35 (own_Bk.ch B31) f83)
    have B37 := own_Bk.keep Kq37 (sfS f84 sf0) B35
    show own_Go p e below _ T37 (mkF m 364 #[.val (.int (8 : Int32)), .val (.ref b)] [(.ref nb1)])
    have ecs : own_str (8 : Int32) [x0, x1, x2, x3, x4, x5, x6, x7] = ([(nar .char x0), (nar .char x1), (nar .char x2), (nar .char x3), (nar .char x4), (nar .char x5), (nar .char x6), (nar .char x7)] : List Int32) := by simp [own_str, own_LN hL0, own_LN hL1, own_LN hL2, own_LN hL3, own_LN hL4, own_LN hL5, own_LN hL6, own_LN hL7]
    refine own_retAS X37 hx hlk hZ hEL rfl hh B37 Bd.returns rfl rfl (hb hby d3_364) ?_ (by decide) (by decide)
    show QM Z (own_str (8 : Int32) [x0, x1, x2, x3, x4, x5, x6, x7]) h0 n0 _ T37.heap _
    exact ⟨nb1, t37, kb37, rfl, N37, K37, sz_nb1, g_nb1, nt37, Eq37, Cq37, Vq37, by rw [ecs]; exact Aq37, by rw [ecs]; exact hp37⟩
def QN9 (h0 : Heap) (n0 : Nat) (v : Option Value) (h : Heap) (L : List Loc) : Prop := ∃ r : Int32, v = some (.int r) ∧ Fr n0 L ∧ h = h0 ∧ own_N9 r
theorem own_min9 {q : Int32} (h : ¬ (8 : Int32) < q) (h0 : 0 ≤ q.toInt) : own_N9 q := by
  rw [Int32.lt_iff_toInt_lt] at h
  have e : (8 : Int32).toInt = 8 := rfl
  have h3 : q.toInt = 0 ∨ q.toInt = 1 ∨ q.toInt = 2 ∨ q.toInt = 3 ∨ q.toInt = 4 ∨ q.toInt = 5 ∨ q.toInt = 6 ∨ q.toInt = 7 ∨ q.toInt = 8 := by omega
  unfold own_N9
  simp only [← Int32.toInt_inj]
  exact h3
theorem d4_0 : decode jdk_29_method_69_code 0 = .ok (.iload_n 0, 1) := by decide +kernel
theorem d4_1 : decode jdk_29_method_69_code 1 = .ok (.iload_n 1, 1) := by decide +kernel
theorem d4_2 : decode jdk_29_method_69_code 2 = .ok (.if_icmp .gt 7, 3) := by decide +kernel
theorem d4_9 : decode jdk_29_method_69_code 9 = .ok (.iload_n 1, 1) := by decide +kernel
theorem d4_10 : decode jdk_29_method_69_code 10 = .ok (.ireturn, 1) := by decide +kernel
theorem d4_5 : decode jdk_29_method_69_code 5 = .ok (.iload_n 0, 1) := by decide +kernel
theorem d4_6 : decode jdk_29_method_69_code 6 = .ok (.goto 4, 3) := by decide +kernel
theorem ef_rmMI (m : MethodId) (x0 : Int32) (x1 : Int32) : entryFrame m #[(.int x0), (.int x1)] 2 = mkF m 0 #[.val (.int x0), .val (.int x1)] [] := by first | (simp [entryFrame, mkF, argsToLocals, Value.category]; done) | rfl
set_option maxRecDepth 65536 in
set_option maxHeartbeats 40000000 in
theorem rmMI (l : Launch) (Z : State) (a0 : Array Value) (hw : ∀ d ∈ tables_1, d.before a0 Z = true) (ws : List Jvm.Cond) (q : Int32) (h0 : Heap) (n0 : Nat) (Z0 : n0 ≤ h0.size) (hq : 0 ≤ q.toInt) :
    MetFree l (⟨"java/lang/Math", "min", "(II)I"⟩ : MethodName) (head1 (Jvm.Cond.code (⟨"java/lang/Math", "min", "(II)I"⟩ : MethodName) jdk_29_method_69_code 2 (some .int) :: ws) ({ frames := 0, cells := 0, slots := 0, locals := 0 } : Room)) (fun a_ U_ => a_ = #[(.int q), (.int (8 : Int32))] ∧ Z.Warmed39 U_.vm ∧ U_.heap = h0) (fun _ _ _ _ _ => True) (fun _ U_ o_ U'_ => ∃ v_ L_, o_ = .returned v_ ∧ QN9 h0 n0 v_ U'_.heap L_ ∧ FrameEnd U_ o_ U'_ L_ ({ frames := 0, cells := 0, slots := 0, locals := 0 } : Room).cells ({ frames := 0, cells := 0, slots := 0, locals := 0 } : Room).slots) := by
  refine MetFree.of_bodySF (Jvm.Free.JP.mathPlain rfl (by decide +kernel)) hisR ?_
  intro p e s m args below meth c s₁ Bd hml0 hP hK
  obtain ⟨rfl, hZ, hh⟩ := hP
  have hx := Bd.exec
  have hby := Bd.bytes
  have hml : c.maxLocals = 2 := hml0
  have hown : s.vm.findClass "java/lang/Math" = some m.cls := findClass_of_methodNamed Bd.named
  have hnm := (name_of_methodNamed Bd.named Bd.method).1
  have hlk := BodyLoose.notSynchronized Bd
  have X0 : Stand p l e ({ frames := 0, cells := 0, slots := 0, locals := 0 } : Room) s m #[(.int q), (.int (8 : Int32))] below meth c s₁ [] 0 0 := Stand.of_body Bd
  have e0 : s₁.heap = h0 := by rw [← hh, Bd.state]; rfl
  have N0 := Fr.nil n0
  refine own_entry (P := own_End s (QN9 h0 n0) ({ frames := 0, cells := 0, slots := 0, locals := 0 } : Room).cells ({ frames := 0, cells := 0, slots := 0, locals := 0 } : Room).slots) (ef_rmMI m q (8 : Int32)) ?_
  show own_Go p e below _ s₁ (mkF m 0 #[.val (.int q), .val (.int (8 : Int32))] [])
  refine own_st (fun t_ k_ => XS.iloadN X0.here hx rfl (hb hby d4_0) rfl k_) ?_
  show own_Go p e below _ s₁ (mkF m 1 #[.val (.int q), .val (.int (8 : Int32))] [(.int q)])
  refine own_st (fun t_ k_ => XS.iloadN X0.here hx rfl (hb hby d4_1) rfl k_) ?_
  show own_Go p e below _ s₁ (mkF m 2 #[.val (.int q), .val (.int (8 : Int32))] [(.int (8 : Int32)), (.int q)])
  by_cases hg : (8 : Int32) < q
  · refine own_st (fun t_ k_ => XS.icmpYes X0.here hx rfl (pc0 := 2) (pc' := 9) rfl (hb hby d4_2) rfl (tlt hg).2.2.1 (by decide) (by decide) k_) ?_
    show own_Go p e below _ s₁ (mkF m 9 #[.val (.int q), .val (.int (8 : Int32))] [])
    refine own_st (fun t_ k_ => XS.iloadN X0.here hx rfl (hb hby d4_9) rfl k_) ?_
    show own_Go p e below _ s₁ (mkF m 10 #[.val (.int q), .val (.int (8 : Int32))] [(.int (8 : Int32))])
    refine own_retI X0 hx hlk Bd.returns (hb hby d4_10) ?_ (by decide) (by decide)
    show QN9 h0 n0 _ s₁.heap _
    rw [e0]
    exact ⟨_, rfl, N0, rfl, Or.inr (Or.inr (Or.inr (Or.inr (Or.inr (Or.inr (Or.inr (Or.inr (rfl))))))))⟩
  · refine own_st (fun t_ k_ => XS.icmpNo X0.here hx rfl (hb hby d4_2) rfl (flt hg).2.2.1 k_) ?_
    show own_Go p e below _ s₁ (mkF m 5 #[.val (.int q), .val (.int (8 : Int32))] [])
    refine own_st (fun t_ k_ => XS.iloadN X0.here hx rfl (hb hby d4_5) rfl k_) ?_
    show own_Go p e below _ s₁ (mkF m 6 #[.val (.int q), .val (.int (8 : Int32))] [(.int q)])
    refine own_st (fun t_ k_ => XS.goto X0.here hx rfl (pc0 := 6) (pc' := 10) rfl (hb hby d4_6) (by decide) (by decide) k_) ?_
    show own_Go p e below _ s₁ (mkF m 10 #[.val (.int q), .val (.int (8 : Int32))] [(.int q)])
    refine own_retI X0 hx hlk Bd.returns (hb hby d4_10) ?_ (by decide) (by decide)
    show QN9 h0 n0 _ s₁.heap _
    rw [e0]
    exact ⟨_, rfl, N0, rfl, own_min9 hg hq⟩
def QV2 (Z : State) (u0 u1 : Addr) (ks : ClassId) (h0 : Heap) (n0 : Nat) (v : Option Value) (h : Heap) (L : List Loc) : Prop := ∃ x : Addr, v = some (.ref x) ∧ Fr n0 L ∧ Keep h0 h [] ∧ h0.size ≤ x ∧ Arv Z h x ks (.object "com/example/gentle_nudge/gentlenudge/server/AccountKind") (2 : Int32) [(.ref u0), (.ref u1)] .null
theorem d5_0 : decode prog_10_method_1_code 0 = .ok (.getstatic 10, 3) := by decide +kernel
theorem d5_3 : decode prog_10_method_1_code 3 = .ok (.invokevirtual 14, 3) := by decide +kernel
theorem d5_6 : decode prog_10_method_1_code 6 = .ok (.checkcast 15, 3) := by decide +kernel
theorem d5_9 : decode prog_10_method_1_code 9 = .ok (.areturn, 1) := by decide +kernel
theorem pn_2 : plainName "com/example/gentle_nudge/gentlenudge/server/AccountKind" = true := by first | (simp [plainName, overriddenIn]; done) | decide +kernel
theorem ef_rmVA (m : MethodId)  : entryFrame m #[] 0 = mkF m 0 #[] [] := by first | (simp [entryFrame, mkF, argsToLocals, Value.category]; done) | rfl
set_option maxRecDepth 65536 in
set_option maxHeartbeats 40000000 in
theorem rmVA (l : Launch) (Z : State) (a0 : Array Value) (hw : ∀ d ∈ tables_1, d.before a0 Z = true) (ws : List Jvm.Cond) (sv u0 u1 : Addr) (ks : ClassId) (h0 : Heap) (n0 : Nat) (Z0 : n0 ≤ h0.size) (SV : Sta Z h0 "com/example/gentle_nudge/gentlenudge/server/AccountKind" "$VALUES" "[Lcom/example/gentle_nudge/gentlenudge/server/AccountKind;" (.ref sv)) (Av : Arv Z h0 sv ks (.object "com/example/gentle_nudge/gentlenudge/server/AccountKind") (2 : Int32) [(.ref u0), (.ref u1)] .null) (Ev : Exa Z h0 sv "[Lcom/example/gentle_nudge/gentlenudge/server/AccountKind;") :
    MetFree l (⟨"com/example/gentle_nudge/gentlenudge/server/AccountKind", "values", "()[Lcom/example/gentle_nudge/gentlenudge/server/AccountKind;"⟩ : MethodName) (head1 (Jvm.Cond.code (⟨"com/example/gentle_nudge/gentlenudge/server/AccountKind", "values", "()[Lcom/example/gentle_nudge/gentlenudge/server/AccountKind;"⟩ : MethodName) prog_10_method_1_code 0 (some (.array (.object "com/example/gentle_nudge/gentlenudge/server/AccountKind"))) :: ws) ({ frames := 1, cells := 1, slots := 2, locals := 14 } : Room)) (fun a_ U_ => a_ = #[] ∧ Z.Warmed39 U_.vm ∧ U_.heap = h0) (fun _ _ _ _ _ => True) (fun _ U_ o_ U'_ => ∃ v_ L_, o_ = .returned v_ ∧ QV2 Z u0 u1 ks h0 n0 v_ U'_.heap L_ ∧ FrameEnd U_ o_ U'_ L_ ({ frames := 1, cells := 1, slots := 2, locals := 14 } : Room).cells ({ frames := 1, cells := 1, slots := 2, locals := 14 } : Room).slots) := by
  refine MetFree.of_bodySF (plainFor_of_name pn_2) hisR ?_
  intro p e s m args below meth c s₁ Bd hml0 hP hK
  obtain ⟨rfl, hZ, hh⟩ := hP
  have hx := Bd.exec
  have hby := Bd.bytes
  have hml : c.maxLocals = 0 := hml0
  have hown : s.vm.findClass "com/example/gentle_nudge/gentlenudge/server/AccountKind" = some m.cls := findClass_of_methodNamed Bd.named
  have hnm := (name_of_methodNamed Bd.named Bd.method).1
  have hlk := BodyLoose.notSynchronized Bd
  have X0 : Stand p l e ({ frames := 1, cells := 1, slots := 2, locals := 14 } : Room) s m #[] below meth c s₁ [] 0 0 := Stand.of_body Bd
  have e0 : s₁.heap = h0 := by rw [← hh, Bd.state]; rfl
  have N0 := Fr.nil n0
  refine own_entry (P := own_End s (QV2 Z u0 u1 ks h0 n0) ({ frames := 1, cells := 1, slots := 2, locals := 14 } : Room).cells ({ frames := 1, cells := 1, slots := 2, locals := 14 } : Room).slots) (ef_rmVA m ) ?_
  show own_Go p e below _ s₁ (mkF m 0 #[] [])
  obtain ⟨T1, X1, e1, st1⟩ := getS2 X0 hx hZ hown (host := "") (Or.inl (hw _ (List.mem_of_getElem? (i := 43) rfl))) Via.refl e0 SV (g := (mkF m 0 #[] [])) rfl (hb hby d5_0)
  refine own_st st1 ?_
  show own_Go p e below _ T1 (mkF m 3 #[] [(.ref sv)])
  obtain ⟨T2, h2, X2, e2, E2, A2, D2, st2⟩ := cloneH X1 hx hZ hown (hw _ (List.mem_of_getElem? (i := 45) rfl)) (hw _ (List.mem_of_getElem? (i := 46) rfl)) (hw _ (List.mem_of_getElem? (i := 50) rfl)) (hw _ (List.mem_of_getElem? (i := 48) rfl)) (hw _ (List.mem_of_getElem? (i := 49) rfl)) (hw _ (List.mem_of_getElem? (i := 51) rfl)) e1 (Arv.arh Av) Ev (g := (mkF m 3 #[] [(.ref sv)])) rfl (by rw [hml]; rfl) rfl (hb hby d5_3) (by decide) (W := 0) (cap := 2) (by show 2 * 0 + _ ≤ _; exact Nat.le_of_eq rfl) (by decide) (by decide) (by decide) (by decide)
  obtain ⟨nb2, g2⟩ : ∃ z, z = h0.size := ⟨_, rfl⟩
  rw [← g2] at A2 D2 st2
  refine own_st st2 ?_
  have g_nb2 : n0 ≤ nb2 := Nat.le_trans (Nat.le_trans Z0 (Keep.refl h0 []).1) (Nat.le_of_eq g2.symm)
  have K2 : Keep h0 h2 [] := (Keep.refl h0 []).ext E2
  have sz_nb2 : h0.size ≤ nb2 := Nat.le_trans (Keep.refl h0 []).1 (Nat.le_of_eq g2.symm)
  have V2 : Arv Z h2 nb2 ks (.object "com/example/gentle_nudge/gentlenudge/server/AccountKind") (2 : Int32) [(.ref u0), (.ref u1)] .null := A2
  show own_Go p e below _ T2 (mkF m 6 #[] [(.ref nb2)])
  obtain ⟨T3, X3, e3, st3⟩ := castY X2 hx hZ hown (hw _ (List.mem_of_getElem? (i := 55) rfl)) e2 (Ins.self D2) (g := (mkF m 6 #[] [(.ref nb2)])) rfl rfl (hb hby d5_6)
  refine own_st st3 ?_
  show own_Go p e below _ T3 (mkF m 9 #[] [(.ref nb2)])
  refine own_retA X3 hx hlk Bd.returns rfl rfl (hb hby d5_9) ?_ (by decide) (by decide)
  show QV2 Z u0 u1 ks h0 n0 _ T3.heap _
  rw [e3]
  exact ⟨nb2, rfl, N0, K2, sz_nb2, V2⟩
def QR (r : Value) (h0 : Heap) (n0 : Nat) (v : Option Value) (h : Heap) (L : List Loc) : Prop := v = some r ∧ Fr n0 L ∧ h = h0
theorem d6_0 : decode jdk_31_method_10_code 0 = .ok (.aload_n 0, 1) := by decide +kernel
theorem d6_1 : decode jdk_31_method_10_code 1 = .ok (.ifnonnull 11, 3) := by decide +kernel
theorem d6_12 : decode jdk_31_method_10_code 12 = .ok (.aload_n 0, 1) := by decide +kernel
theorem d6_13 : decode jdk_31_method_10_code 13 = .ok (.areturn, 1) := by decide +kernel
theorem pn_3 : plainName "java/util/Objects" = true := by first | (simp [plainName, overriddenIn]; done) | decide +kernel
theorem ef_rmRN (m : MethodId) (x0 : Addr) : entryFrame m #[(.ref x0)] 1 = mkF m 0 #[.val (.ref x0)] [] := by first | (simp [entryFrame, mkF, argsToLocals, Value.category]; done) | rfl
set_option maxRecDepth 65536 in
set_option maxHeartbeats 40000000 in
theorem rmRN (l : Launch) (Z : State) (a0 : Array Value) (hw : ∀ d ∈ tables_1, d.before a0 Z = true) (ws : List Jvm.Cond) (k : Addr) (h0 : Heap) (n0 : Nat) (Z0 : n0 ≤ h0.size) :
    MetFree l (⟨"java/util/Objects", "requireNonNull", "(Ljava/lang/Object;)Ljava/lang/Object;"⟩ : MethodName) (head1 (Jvm.Cond.code (⟨"java/util/Objects", "requireNonNull", "(Ljava/lang/Object;)Ljava/lang/Object;"⟩ : MethodName) jdk_31_method_10_code 1 (some (.object "java/lang/Object")) :: ws) ({ frames := 0, cells := 0, slots := 0, locals := 0 } : Room)) (fun a_ U_ => a_ = #[(.ref k)] ∧ Z.Warmed39 U_.vm ∧ U_.heap = h0) (fun _ _ _ _ _ => True) (fun _ U_ o_ U'_ => ∃ v_ L_, o_ = .returned v_ ∧ QR (.ref k) h0 n0 v_ U'_.heap L_ ∧ FrameEnd U_ o_ U'_ L_ ({ frames := 0, cells := 0, slots := 0, locals := 0 } : Room).cells ({ frames := 0, cells := 0, slots := 0, locals := 0 } : Room).slots) := by
  refine MetFree.of_bodySF (plainFor_of_name pn_3) hisR ?_
  intro p e s m args below meth c s₁ Bd hml0 hP hK
  obtain ⟨rfl, hZ, hh⟩ := hP
  have hx := Bd.exec
  have hby := Bd.bytes
  have hml : c.maxLocals = 1 := hml0
  have hown : s.vm.findClass "java/util/Objects" = some m.cls := findClass_of_methodNamed Bd.named
  have hnm := (name_of_methodNamed Bd.named Bd.method).1
  have hlk := BodyLoose.notSynchronized Bd
  have X0 : Stand p l e ({ frames := 0, cells := 0, slots := 0, locals := 0 } : Room) s m #[(.ref k)] below meth c s₁ [] 0 0 := Stand.of_body Bd
  have e0 : s₁.heap = h0 := by rw [← hh, Bd.state]; rfl
  have N0 := Fr.nil n0
  refine own_entry (P := own_End s (QR (.ref k) h0 n0) ({ frames := 0, cells := 0, slots := 0, locals := 0 } : Room).cells ({ frames := 0, cells := 0, slots := 0, locals := 0 } : Room).slots) (ef_rmRN m k) ?_
  show own_Go p e below _ s₁ (mkF m 0 #[.val (.ref k)] [])
  refine own_st (fun t_ k_ => XS.aloadN X0.here hx rfl (hb hby d6_0) rfl rfl k_) ?_
  show own_Go p e below _ s₁ (mkF m 1 #[.val (.ref k)] [(.ref k)])
  refine own_st (fun t_ k_ => XS.ifnonnullYes X0.here hx rfl (pc0 := 1) (pc' := 12) rfl (hb hby d6_1) rfl (by decide) (by decide) k_) ?_
  show own_Go p e below _ s₁ (mkF m 12 #[.val (.ref k)] [])
  refine own_st (fun t_ k_ => XS.aloadN X0.here hx rfl (hb hby d6_12) rfl rfl k_) ?_
  show own_Go p e below _ s₁ (mkF m 13 #[.val (.ref k)] [(.ref k)])
  refine own_retA X0 hx hlk Bd.returns rfl rfl (hb hby d6_13) ?_ (by decide) (by decide)
  show QR (.ref k) h0 n0 _ s₁.heap _
  rw [e0]
  exact ⟨rfl, N0, rfl⟩
def QOI (Z : State) (a k : Addr) (h0 : Heap) (n0 : Nat) (v : Option Value) (h : Heap) (L : List Loc) : Prop := v = none ∧ Fr n0 L ∧ Keep h0 h [a] ∧ Exa Z h a "java/util/Optional" ∧ Fld Z h a "java/util/Optional" "value" "Ljava/lang/Object;" (.ref k)
theorem d7_0 : decode jdk_32_method_2_code 0 = .ok (.aload_n 0, 1) := by decide +kernel
theorem d7_1 : decode jdk_32_method_2_code 1 = .ok (.invokespecial 7, 3) := by decide +kernel
theorem d7_4 : decode jdk_32_method_2_code 4 = .ok (.aload_n 0, 1) := by decide +kernel
theorem d7_5 : decode jdk_32_method_2_code 5 = .ok (.aload_n 1, 1) := by decide +kernel
theorem d7_6 : decode jdk_32_method_2_code 6 = .ok (.putfield 13, 3) := by decide +kernel
theorem d7_9 : decode jdk_32_method_2_code 9 = .ok (.return_, 1) := by decide +kernel
theorem pn_4 : plainName "java/util/Optional" = true := by first | (simp [plainName, overriddenIn]; done) | decide +kernel
theorem ef_rmOI (m : MethodId) (x0 : Addr) (x1 : Addr) : entryFrame m #[(.ref x0), (.ref x1)] 2 = mkF m 0 #[.val (.ref x0), .val (.ref x1)] [] := by first | (simp [entryFrame, mkF, argsToLocals, Value.category]; done) | rfl
set_option maxRecDepth 65536 in
set_option maxHeartbeats 40000000 in
theorem rmOI (l : Launch) (Z : State) (a0 : Array Value) (hw : ∀ d ∈ tables_1, d.before a0 Z = true) (ws : List Jvm.Cond) (a k : Addr) (h0 : Heap) (n0 : Nat) (Z0 : n0 ≤ h0.size) (g_a : n0 ≤ a) (Ea : Exa Z h0 a "java/util/Optional") (Fa : Fld Z h0 a "java/util/Optional" "value" "Ljava/lang/Object;" .null) :
    MetFree l (⟨"java/util/Optional", "<init>", "(Ljava/lang/Object;)V"⟩ : MethodName) (head1 (Jvm.Cond.code (⟨"java/util/Optional", "<init>", "(Ljava/lang/Object;)V"⟩ : MethodName) jdk_32_method_2_code 2 none :: ws) ({ frames := 1, cells := 0, slots := 0, locals := 12 } : Room)) (fun a_ U_ => a_ = #[(.ref a), (.ref k)] ∧ Z.Warmed39 U_.vm ∧ U_.heap = h0) (fun _ _ _ _ _ => True) (fun _ U_ o_ U'_ => ∃ v_ L_, o_ = .returned v_ ∧ QOI Z a k h0 n0 v_ U'_.heap L_ ∧ FrameEnd U_ o_ U'_ L_ ({ frames := 1, cells := 0, slots := 0, locals := 12 } : Room).cells ({ frames := 1, cells := 0, slots := 0, locals := 12 } : Room).slots) := by
  refine MetFree.of_bodySF (plainFor_of_name pn_4) hisR ?_
  intro p e s m args below meth c s₁ Bd hml0 hP hK
  obtain ⟨rfl, hZ, hh⟩ := hP
  have hx := Bd.exec
  have hby := Bd.bytes
  have hml : c.maxLocals = 2 := hml0
  have hown : s.vm.findClass "java/util/Optional" = some m.cls := findClass_of_methodNamed Bd.named
  have hnm := (name_of_methodNamed Bd.named Bd.method).1
  have hlk := BodyLoose.notSynchronized Bd
  have X0 : Stand p l e ({ frames := 1, cells := 0, slots := 0, locals := 12 } : Room) s m #[(.ref a), (.ref k)] below meth c s₁ [] 0 0 := Stand.of_body Bd
  have e0 : s₁.heap = h0 := by rw [← hh, Bd.state]; rfl
  have N0 := Fr.nil n0
  refine own_entry (P := own_End s (QOI Z a k h0 n0) ({ frames := 1, cells := 0, slots := 0, locals := 12 } : Room).cells ({ frames := 1, cells := 0, slots := 0, locals := 12 } : Room).slots) (ef_rmOI m a k) ?_
  show own_Go p e below _ s₁ (mkF m 0 #[.val (.ref a), .val (.ref k)] [])
  refine own_st (fun t_ k_ => XS.aloadN X0.here hx rfl (hb hby d7_0) rfl rfl k_) ?_
  show own_Go p e below _ s₁ (mkF m 1 #[.val (.ref a), .val (.ref k)] [(.ref a)])
  obtain ⟨T1, X1, e1, st1⟩ := initO X0 hx hZ hown (hw _ (List.mem_of_getElem? (i := 83) rfl)) (hw _ (List.mem_of_getElem? (i := 18) rfl)) (hw _ (List.mem_of_getElem? (i := 19) rfl)) e0 (g := (mkF m 1 #[.val (.ref a), .val (.ref k)] [(.ref a)])) rfl (by rw [hml]; rfl) rfl (hb hby d7_1) (by decide) (W := 0) (by show 2 * 0 + _ ≤ _; exact Nat.le_of_eq rfl) (by decide)
  refine own_st st1 ?_
  show own_Go p e below _ T1 (mkF m 4 #[.val (.ref a), .val (.ref k)] [])
  refine own_st (fun t_ k_ => XS.aloadN X1.here hx rfl (hb hby d7_4) rfl rfl k_) ?_
  show own_Go p e below _ T1 (mkF m 5 #[.val (.ref a), .val (.ref k)] [(.ref a)])
  refine own_st (fun t_ k_ => XS.aloadN X1.here hx rfl (hb hby d7_5) rfl rfl k_) ?_
  show own_Go p e below _ T1 (mkF m 6 #[.val (.ref a), .val (.ref k)] [(.ref k), (.ref a)])
  obtain ⟨T2, h2, X2, e2, W2, st2⟩ := putF X1 hx hZ hown (host := "") (Or.inl (hw _ (List.mem_of_getElem? (i := 84) rfl))) Via.refl e1 Fa Ea (Or.inr ⟨(hw _ (List.mem_of_getElem? (i := 85) rfl)), rfl, hnm⟩) (hw _ (List.mem_of_getElem? (i := 74) rfl)) (ty := (.object "java/lang/Object")) (by decide) rfl rfl (g := (mkF m 6 #[.val (.ref a), .val (.ref k)] [(.ref k), (.ref a)])) rfl rfl (hb hby d7_6)
  refine own_st st2 ?_
  have N2 := Fr.snoc X2 N0 g_a
  have K2 : Keep h0 h2 [a] := (Keep.refl h0 [a]).wr W2 (Or.inl (List.mem_of_getElem? (i := 0) rfl))
  have Fw2 := Fld.same W2 Fa
  show own_Go p e below _ T2 (mkF m 9 #[.val (.ref a), .val (.ref k)] [])
  have f3 := (Exa.wr W2 Ea)
  refine own_ret0 X2 hx hlk Bd.returns (hb hby d7_9) ?_ (by decide) (by decide)
  show QOI Z a k h0 n0 _ T2.heap _
  rw [e2]
  exact ⟨rfl, N2, K2, f3, Fw2⟩
def QO (Z : State) (r : Value) (h0 : Heap) (n0 : Nat) (v : Option Value) (h : Heap) (L : List Loc) : Prop := ∃ o : Addr, v = some (.ref o) ∧ Fr n0 L ∧ Keep h0 h [] ∧ Exa Z h o "java/util/Optional" ∧ Fld Z h o "java/util/Optional" "value" "Ljava/lang/Object;" r
theorem d8_0 : decode jdk_32_method_3_code 0 = .ok (.new 2, 3) := by decide +kernel
theorem d8_3 : decode jdk_32_method_3_code 3 = .ok (.dup, 1) := by decide +kernel
theorem d8_4 : decode jdk_32_method_3_code 4 = .ok (.aload_n 0, 1) := by decide +kernel
theorem d8_5 : decode jdk_32_method_3_code 5 = .ok (.invokestatic 17, 3) := by decide +kernel
theorem pd_2 : parseMethodDescriptor "(Ljava/lang/Object;)Ljava/lang/Object;" = some ⟨[(.object "java/lang/Object")], some (.object "java/lang/Object")⟩ := by decide +kernel
theorem d8_8 : decode jdk_32_method_3_code 8 = .ok (.invokespecial 23, 3) := by decide +kernel
theorem pd_3 : parseMethodDescriptor "(Ljava/lang/Object;)V" = some ⟨[(.object "java/lang/Object")], none⟩ := by decide +kernel
theorem d8_11 : decode jdk_32_method_3_code 11 = .ok (.areturn, 1) := by decide +kernel
theorem ef_rmOF (m : MethodId) (x0 : Addr) : entryFrame m #[(.ref x0)] 1 = mkF m 0 #[.val (.ref x0)] [] := by first | (simp [entryFrame, mkF, argsToLocals, Value.category]; done) | rfl
set_option maxRecDepth 65536 in
set_option maxHeartbeats 40000000 in
theorem rmOF (l : Launch) (Z : State) (a0 : Array Value) (hw : ∀ d ∈ tables_1, d.before a0 Z = true) (ws : List Jvm.Cond) (k : Addr) (h0 : Heap) (n0 : Nat) (Z0 : n0 ≤ h0.size) :
    MetFree l (⟨"java/util/Optional", "of", "(Ljava/lang/Object;)Ljava/util/Optional;"⟩ : MethodName) (head1 (Jvm.Cond.code (⟨"java/util/Optional", "of", "(Ljava/lang/Object;)Ljava/util/Optional;"⟩ : MethodName) jdk_32_method_3_code 1 (some (.object "java/util/Optional")) :: ws) ({ frames := 2, cells := 1, slots := 1, locals := 26 } : Room)) (fun a_ U_ => a_ = #[(.ref k)] ∧ Z.Warmed39 U_.vm ∧ U_.heap = h0) (fun _ _ _ _ _ => True) (fun _ U_ o_ U'_ => ∃ v_ L_, o_ = .returned v_ ∧ QO Z (.ref k) h0 n0 v_ U'_.heap L_ ∧ FrameEnd U_ o_ U'_ L_ ({ frames := 2, cells := 1, slots := 1, locals := 26 } : Room).cells ({ frames := 2, cells := 1, slots := 1, locals := 26 } : Room).slots) := by
  refine MetFree.of_bodySF (plainFor_of_name pn_4) hisR ?_
  intro p e s m args below meth c s₁ Bd hml0 hP hK
  obtain ⟨rfl, hZ, hh⟩ := hP
  have hx := Bd.exec
  have hby := Bd.bytes
  have hml : c.maxLocals = 1 := hml0
  have hown : s.vm.findClass "java/util/Optional" = some m.cls := findClass_of_methodNamed Bd.named
  have hnm := (name_of_methodNamed Bd.named Bd.method).1
  have hlk := BodyLoose.notSynchronized Bd
  have X0 : Stand p l e ({ frames := 2, cells := 1, slots := 1, locals := 26 } : Room) s m #[(.ref k)] below meth c s₁ [] 0 0 := Stand.of_body Bd
  have e0 : s₁.heap = h0 := by rw [← hh, Bd.state]; rfl
  have N0 := Fr.nil n0
  refine own_entry (P := own_End s (QO Z (.ref k) h0 n0) ({ frames := 2, cells := 1, slots := 1, locals := 26 } : Room).cells ({ frames := 2, cells := 1, slots := 1, locals := 26 } : Room).slots) (ef_rmOF m k) ?_
  show own_Go p e below _ s₁ (mkF m 0 #[.val (.ref k)] [])
  obtain ⟨T1, h1, X1, e1, E1, A1, D1, cel1, st1⟩ := newO X0 hx hZ hown (hw _ (List.mem_of_getElem? (i := 73) rfl)) (hw _ (List.mem_of_getElem? (i := 74) rfl)) (hw _ (List.mem_of_getElem? (i := 71) rfl)) e0 (g := (mkF m 0 #[.val (.ref k)] [])) rfl (hb hby d8_0) (by decide) (by decide)
  obtain ⟨nb1, g1⟩ : ∃ z, z = h0.size := ⟨_, rfl⟩
  rw [← g1] at A1 D1 cel1 st1
  refine own_st st1 ?_
  have g_nb1 : n0 ≤ nb1 := Nat.le_trans (Nat.le_trans Z0 (Keep.refl h0 []).1) (Nat.le_of_eq g1.symm)
  have K1 : Keep h0 h1 [] := (Keep.refl h0 []).ext E1
  have sz_nb1 : h0.size ≤ nb1 := Nat.le_trans (Keep.refl h0 []).1 (Nat.le_of_eq g1.symm)
  have F1_value : Fld Z h1 nb1 "java/util/Optional" "value" "Ljava/lang/Object;" .null := D1 (Or.inr (hw _ (List.mem_of_getElem? (i := 85) rfl))) (ty := (.object "java/lang/Object")) (by decide)
  show own_Go p e below _ T1 (mkF m 3 #[.val (.ref k)] [(.ref nb1)])
  refine own_st (fun t_ k_ => XS.dup X1.here hx rfl (hb hby d8_3) rfl rfl k_) ?_
  show own_Go p e below _ T1 (mkF m 4 #[.val (.ref k)] [(.ref nb1), (.ref nb1)])
  refine own_st (fun t_ k_ => XS.aloadN X1.here hx rfl (hb hby d8_4) rfl rfl k_) ?_
  show own_Go p e below _ T1 (mkF m 5 #[.val (.ref k)] [(.ref k), (.ref nb1), (.ref nb1)])
  refine own_callS X1 hx (y := (⟨"java/util/Objects", "requireNonNull", "(Ljava/lang/Object;)Ljava/lang/Object;"⟩ : MethodName)) hown (mvT hZ (hw _ (List.mem_of_getElem? (i := 75) rfl))) (mvT hZ (hw _ (List.mem_of_getElem? (i := 76) rfl))) (mvT hZ (hw _ (List.mem_of_getElem? (i := 77) rfl))) (mvT hZ (hw _ (List.mem_of_getElem? (i := 78) rfl))) (by decide) (backOf (W := 2) (rmRN l Z a0 hw [] k h1 n0 (Nat.le_trans Z0 K1.1)) hZ (hw _ (List.mem_of_getElem? (i := 78) rfl)) (hw _ (List.mem_of_getElem? (i := 77) rfl)) (by decide) (by decide)) (g := (mkF m 5 #[.val (.ref k)] [(.ref k), (.ref nb1), (.ref nb1)])) rfl (by rw [hml]; rfl) (argsL := [(.ref k)]) (rest := [(.ref nb1), (.ref nb1)]) (lenOf pd_2 rfl) rfl (by show 2 * 0 + _ ≤ _; exact Nat.le_of_eq rfl) (hb hby d8_5) rfl e1 (by decide) (by decide) ?_
  rintro v2 T2 L2 X2 ⟨rfl, Nq2, hh2⟩
  have N2 := Fr.app N0 Nq2
  show own_Go p e below _ T2 (mkF m 8 #[.val (.ref k)] [(.ref k), (.ref nb1), (.ref nb1)])
  refine own_callN X2 hx (y := (⟨"java/util/Optional", "<init>", "(Ljava/lang/Object;)V"⟩ : MethodName)) rfl hown (mvT hZ (hw _ (List.mem_of_getElem? (i := 79) rfl))) (mvT hZ (hw _ (List.mem_of_getElem? (i := 80) rfl))) (mvT hZ (hw _ (List.mem_of_getElem? (i := 82) rfl))) (by decide) (backOf (W := 1) (rmOI l Z a0 hw [] nb1 k h1 n0 (Nat.le_trans Z0 K1.1) g_nb1 A1 F1_value) hZ (hw _ (List.mem_of_getElem? (i := 82) rfl)) (hw _ (List.mem_of_getElem? (i := 71) rfl)) (by decide) (by decide)) (a := nb1) (g := (mkF m 8 #[.val (.ref k)] [(.ref k), (.ref nb1), (.ref nb1)])) rfl (by rw [hml]; rfl) (argsL := [(.ref k)]) (rest := [(.ref nb1)]) (lenOf pd_3 rfl) rfl (by show 2 * 0 + _ ≤ _; exact Nat.le_of_eq rfl) (hb hby d8_8) rfl hh2 (by decide) (by decide) ?_
  rintro v3 T3 L3 X3 ⟨rfl, Nq3, Kq3, Eq3, Fq3⟩
  have N3 := Fr.app N2 Nq3
  have K3 : Keep h0 T3.heap [] := K1.trans Kq3 (allS (Or.inr sz_nb1) all0)
  show own_Go p e below _ T3 (mkF m 11 #[.val (.ref k)] [(.ref nb1)])
  refine own_retA X3 hx hlk Bd.returns rfl rfl (hb hby d8_11) ?_ (by decide) (by decide)
  show QO Z (.ref k) h0 n0 _ T3.heap _
  exact ⟨nb1, rfl, N3, K3, Eq3, Fq3⟩
theorem d9_0 : decode jdk_32_method_1_code 0 = .ok (.getstatic 1, 3) := by decide +kernel
theorem d9_3 : decode jdk_32_method_1_code 3 = .ok (.astore_n 0, 1) := by decide +kernel
theorem d9_4 : decode jdk_32_method_1_code 4 = .ok (.aload_n 0, 1) := by decide +kernel
theorem d9_5 : decode jdk_32_method_1_code 5 = .ok (.areturn, 1) := by decide +kernel
theorem ef_rmEM (m : MethodId)  : entryFrame m #[] 1 = mkF m 0 #[.unset] [] := by first | (simp [entryFrame, mkF, argsToLocals, Value.category]; done) | rfl
set_option maxRecDepth 65536 in
set_option maxHeartbeats 40000000 in
theorem rmEM (l : Launch) (Z : State) (a0 : Array Value) (hw : ∀ d ∈ tables_1, d.before a0 Z = true) (ws : List Jvm.Cond) (em : Addr) (h0 : Heap) (n0 : Nat) (Z0 : n0 ≤ h0.size) (SE : Sta Z h0 "java/util/Optional" "EMPTY" "Ljava/util/Optional;" (.ref em)) :
    MetFree l (⟨"java/util/Optional", "empty", "()Ljava/util/Optional;"⟩ : MethodName) (head1 (Jvm.Cond.code (⟨"java/util/Optional", "empty", "()Ljava/util/Optional;"⟩ : MethodName) jdk_32_method_1_code 1 (some (.object "java/util/Optional")) :: ws) ({ frames := 0, cells := 0, slots := 0, locals := 0 } : Room)) (fun a_ U_ => a_ = #[] ∧ Z.Warmed39 U_.vm ∧ U_.heap = h0) (fun _ _ _ _ _ => True) (fun _ U_ o_ U'_ => ∃ v_ L_, o_ = .returned v_ ∧ QR (.ref em) h0 n0 v_ U'_.heap L_ ∧ FrameEnd U_ o_ U'_ L_ ({ frames := 0, cells := 0, slots := 0, locals := 0 } : Room).cells ({ frames := 0, cells := 0, slots := 0, locals := 0 } : Room).slots) := by
  refine MetFree.of_bodySF (plainFor_of_name pn_4) hisR ?_
  intro p e s m args below meth c s₁ Bd hml0 hP hK
  obtain ⟨rfl, hZ, hh⟩ := hP
  have hx := Bd.exec
  have hby := Bd.bytes
  have hml : c.maxLocals = 1 := hml0
  have hown : s.vm.findClass "java/util/Optional" = some m.cls := findClass_of_methodNamed Bd.named
  have hnm := (name_of_methodNamed Bd.named Bd.method).1
  have hlk := BodyLoose.notSynchronized Bd
  have X0 : Stand p l e ({ frames := 0, cells := 0, slots := 0, locals := 0 } : Room) s m #[] below meth c s₁ [] 0 0 := Stand.of_body Bd
  have e0 : s₁.heap = h0 := by rw [← hh, Bd.state]; rfl
  have N0 := Fr.nil n0
  refine own_entry (P := own_End s (QR (.ref em) h0 n0) ({ frames := 0, cells := 0, slots := 0, locals := 0 } : Room).cells ({ frames := 0, cells := 0, slots := 0, locals := 0 } : Room).slots) (ef_rmEM m ) ?_
  show own_Go p e below _ s₁ (mkF m 0 #[.unset] [])
  obtain ⟨T1, X1, e1, st1⟩ := getS2 X0 hx hZ hown (host := "") (Or.inl (hw _ (List.mem_of_getElem? (i := 105) rfl))) Via.refl e0 SE (g := (mkF m 0 #[.unset] [])) rfl (hb hby d9_0)
  refine own_st st1 ?_
  show own_Go p e below _ T1 (mkF m 3 #[.unset] [(.ref em)])
  refine own_st (fun t_ k_ => XS.astoreN X1.here hx rfl (hb hby d9_3) rfl rfl (l' := #[.val (.ref em)]) rfl k_) ?_
  show own_Go p e below _ T1 (mkF m 4 #[.val (.ref em)] [])
  refine own_st (fun t_ k_ => XS.aloadN X1.here hx rfl (hb hby d9_4) rfl rfl k_) ?_
  show own_Go p e below _ T1 (mkF m 5 #[.val (.ref em)] [(.ref em)])
  refine own_retA X1 hx hlk Bd.returns rfl rfl (hb hby d9_5) ?_ (by decide) (by decide)
  show QR (.ref em) h0 n0 _ T1.heap _
  rw [e1]
  exact ⟨rfl, N0, rfl⟩
theorem d10_0 : decode jdk_32_method_6_code 0 = .ok (.aload_n 0, 1) := by decide +kernel
theorem d10_1 : decode jdk_32_method_6_code 1 = .ok (.getfield 13, 3) := by decide +kernel
theorem d10_4 : decode jdk_32_method_6_code 4 = .ok (.ifnull 7, 3) := by decide +kernel
theorem d10_7 : decode jdk_32_method_6_code 7 = .ok (.iconst 1, 1) := by decide +kernel
theorem d10_8 : decode jdk_32_method_6_code 8 = .ok (.goto 4, 3) := by decide +kernel
theorem d10_12 : decode jdk_32_method_6_code 12 = .ok (.ireturn, 1) := by decide +kernel
theorem ef_rmIPR (m : MethodId) (x0 : Addr) : entryFrame m #[(.ref x0)] 1 = mkF m 0 #[.val (.ref x0)] [] := by first | (simp [entryFrame, mkF, argsToLocals, Value.category]; done) | rfl
set_option maxRecDepth 65536 in
set_option maxHeartbeats 40000000 in
theorem rmIPR (l : Launch) (Z : State) (a0 : Array Value) (hw : ∀ d ∈ tables_1, d.before a0 Z = true) (ws : List Jvm.Cond) (a k : Addr) (h0 : Heap) (n0 : Nat) (Z0 : n0 ≤ h0.size) (F : Fld Z h0 a "java/util/Optional" "value" "Ljava/lang/Object;" (.ref k)) :
    MetFree l (⟨"java/util/Optional", "isPresent", "()Z"⟩ : MethodName) (head1 (Jvm.Cond.code (⟨"java/util/Optional", "isPresent", "()Z"⟩ : MethodName) jdk_32_method_6_code 1 (some .boolean) :: ws) ({ frames := 0, cells := 0, slots := 0, locals := 0 } : Room)) (fun a_ U_ => a_ = #[(.ref a)] ∧ Z.Warmed39 U_.vm ∧ U_.heap = h0) (fun _ _ _ _ _ => True) (fun _ U_ o_ U'_ => ∃ v_ L_, o_ = .returned v_ ∧ QR (.int 1) h0 n0 v_ U'_.heap L_ ∧ FrameEnd U_ o_ U'_ L_ ({ frames := 0, cells := 0, slots := 0, locals := 0 } : Room).cells ({ frames := 0, cells := 0, slots := 0, locals := 0 } : Room).slots) := by
  refine MetFree.of_bodySF (plainFor_of_name pn_4) hisR ?_
  intro p e s m args below meth c s₁ Bd hml0 hP hK
  obtain ⟨rfl, hZ, hh⟩ := hP
  have hx := Bd.exec
  have hby := Bd.bytes
  have hml : c.maxLocals = 1 := hml0
  have hown : s.vm.findClass "java/util/Optional" = some m.cls := findClass_of_methodNamed Bd.named
  have hnm := (name_of_methodNamed Bd.named Bd.method).1
  have hlk := BodyLoose.notSynchronized Bd
  have X0 : Stand p l e ({ frames := 0, cells := 0, slots := 0, locals := 0 } : Room) s m #[(.ref a)] below meth c s₁ [] 0 0 := Stand.of_body Bd
  have e0 : s₁.heap = h0 := by rw [← hh, Bd.state]; rfl
  have N0 := Fr.nil n0
  refine own_entry (P := own_End s (QR (.int 1) h0 n0) ({ frames := 0, cells := 0, slots := 0, locals := 0 } : Room).cells ({ frames := 0, cells := 0, slots := 0, locals := 0 } : Room).slots) (ef_rmIPR m a) ?_
  show own_Go p e below _ s₁ (mkF m 0 #[.val (.ref a)] [])
  refine own_st (fun t_ k_ => XS.aloadN X0.here hx rfl (hb hby d10_0) rfl rfl k_) ?_
  show own_Go p e below _ s₁ (mkF m 1 #[.val (.ref a)] [(.ref a)])
  obtain ⟨T1, X1, e1, st1⟩ := getF X0 hx hZ hown (host := "") (Or.inl (hw _ (List.mem_of_getElem? (i := 84) rfl))) Via.refl e0 F (g := (mkF m 1 #[.val (.ref a)] [(.ref a)])) rfl rfl (hb hby d10_1)
  refine own_st st1 ?_
  show own_Go p e below _ T1 (mkF m 4 #[.val (.ref a)] [(.ref k)])
  refine own_st (fun t_ k_ => XS.ifnullNo X1.here hx rfl (hb hby d10_4) rfl k_) ?_
  show own_Go p e below _ T1 (mkF m 7 #[.val (.ref a)] [])
  refine own_st (fun t_ k_ => XS.iconst X1.here hx rfl (hb hby d10_7) k_) ?_
  show own_Go p e below _ T1 (mkF m 8 #[.val (.ref a)] [(.int (1 : Int32))])
  refine own_st (fun t_ k_ => XS.goto X1.here hx rfl (pc0 := 8) (pc' := 12) rfl (hb hby d10_8) (by decide) (by decide) k_) ?_
  show own_Go p e below _ T1 (mkF m 12 #[.val (.ref a)] [(.int (1 : Int32))])
  refine own_retN X1 hx hlk (t := .boolean) Bd.returns (by simp) (hb hby d10_12) ?_ (by decide) (by decide)
  show QR (.int 1) h0 n0 _ T1.heap _
  rw [e1]
  exact ⟨rfl, N0, rfl⟩
theorem d10_11 : decode jdk_32_method_6_code 11 = .ok (.iconst 0, 1) := by decide +kernel
theorem ef_rmIPN (m : MethodId) (x0 : Addr) : entryFrame m #[(.ref x0)] 1 = mkF m 0 #[.val (.ref x0)] [] := by first | (simp [entryFrame, mkF, argsToLocals, Value.category]; done) | rfl
set_option maxRecDepth 65536 in
set_option maxHeartbeats 40000000 in
theorem rmIPN (l : Launch) (Z : State) (a0 : Array Value) (hw : ∀ d ∈ tables_1, d.before a0 Z = true) (ws : List Jvm.Cond) (a : Addr) (h0 : Heap) (n0 : Nat) (Z0 : n0 ≤ h0.size) (F : Fld Z h0 a "java/util/Optional" "value" "Ljava/lang/Object;" .null) :
    MetFree l (⟨"java/util/Optional", "isPresent", "()Z"⟩ : MethodName) (head1 (Jvm.Cond.code (⟨"java/util/Optional", "isPresent", "()Z"⟩ : MethodName) jdk_32_method_6_code 1 (some .boolean) :: ws) ({ frames := 0, cells := 0, slots := 0, locals := 0 } : Room)) (fun a_ U_ => a_ = #[(.ref a)] ∧ Z.Warmed39 U_.vm ∧ U_.heap = h0) (fun _ _ _ _ _ => True) (fun _ U_ o_ U'_ => ∃ v_ L_, o_ = .returned v_ ∧ QR (.int 0) h0 n0 v_ U'_.heap L_ ∧ FrameEnd U_ o_ U'_ L_ ({ frames := 0, cells := 0, slots := 0, locals := 0 } : Room).cells ({ frames := 0, cells := 0, slots := 0, locals := 0 } : Room).slots) := by
  refine MetFree.of_bodySF (plainFor_of_name pn_4) hisR ?_
  intro p e s m args below meth c s₁ Bd hml0 hP hK
  obtain ⟨rfl, hZ, hh⟩ := hP
  have hx := Bd.exec
  have hby := Bd.bytes
  have hml : c.maxLocals = 1 := hml0
  have hown : s.vm.findClass "java/util/Optional" = some m.cls := findClass_of_methodNamed Bd.named
  have hnm := (name_of_methodNamed Bd.named Bd.method).1
  have hlk := BodyLoose.notSynchronized Bd
  have X0 : Stand p l e ({ frames := 0, cells := 0, slots := 0, locals := 0 } : Room) s m #[(.ref a)] below meth c s₁ [] 0 0 := Stand.of_body Bd
  have e0 : s₁.heap = h0 := by rw [← hh, Bd.state]; rfl
  have N0 := Fr.nil n0
  refine own_entry (P := own_End s (QR (.int 0) h0 n0) ({ frames := 0, cells := 0, slots := 0, locals := 0 } : Room).cells ({ frames := 0, cells := 0, slots := 0, locals := 0 } : Room).slots) (ef_rmIPN m a) ?_
  show own_Go p e below _ s₁ (mkF m 0 #[.val (.ref a)] [])
  refine own_st (fun t_ k_ => XS.aloadN X0.here hx rfl (hb hby d10_0) rfl rfl k_) ?_
  show own_Go p e below _ s₁ (mkF m 1 #[.val (.ref a)] [(.ref a)])
  obtain ⟨T1, X1, e1, st1⟩ := getF X0 hx hZ hown (host := "") (Or.inl (hw _ (List.mem_of_getElem? (i := 84) rfl))) Via.refl e0 F (g := (mkF m 1 #[.val (.ref a)] [(.ref a)])) rfl rfl (hb hby d10_1)
  refine own_st st1 ?_
  show own_Go p e below _ T1 (mkF m 4 #[.val (.ref a)] [.null])
  refine own_st (fun t_ k_ => XS.ifnullYes X1.here hx rfl (pc0 := 4) (pc' := 11) rfl (hb hby d10_4) rfl (by decide) (by decide) k_) ?_
  show own_Go p e below _ T1 (mkF m 11 #[.val (.ref a)] [])
  refine own_st (fun t_ k_ => XS.iconst X1.here hx rfl (hb hby d10_11) k_) ?_
  show own_Go p e below _ T1 (mkF m 12 #[.val (.ref a)] [(.int (0 : Int32))])
  refine own_retN X1 hx hlk (t := .boolean) Bd.returns (by simp) (hb hby d10_12) ?_ (by decide) (by decide)
  show QR (.int 0) h0 n0 _ T1.heap _
  rw [e1]
  exact ⟨rfl, N0, rfl⟩
theorem d11_0 : decode jdk_32_method_5_code 0 = .ok (.aload_n 0, 1) := by decide +kernel
theorem d11_1 : decode jdk_32_method_5_code 1 = .ok (.getfield 13, 3) := by decide +kernel
theorem d11_4 : decode jdk_32_method_5_code 4 = .ok (.ifnonnull 13, 3) := by decide +kernel
theorem d11_17 : decode jdk_32_method_5_code 17 = .ok (.aload_n 0, 1) := by decide +kernel
theorem d11_18 : decode jdk_32_method_5_code 18 = .ok (.getfield 13, 3) := by decide +kernel
theorem d11_21 : decode jdk_32_method_5_code 21 = .ok (.areturn, 1) := by decide +kernel
theorem ef_rmGE (m : MethodId) (x0 : Addr) : entryFrame m #[(.ref x0)] 1 = mkF m 0 #[.val (.ref x0)] [] := by first | (simp [entryFrame, mkF, argsToLocals, Value.category]; done) | rfl
set_option maxRecDepth 65536 in
set_option maxHeartbeats 40000000 in
theorem rmGE (l : Launch) (Z : State) (a0 : Array Value) (hw : ∀ d ∈ tables_1, d.before a0 Z = true) (ws : List Jvm.Cond) (a k : Addr) (h0 : Heap) (n0 : Nat) (Z0 : n0 ≤ h0.size) (F : Fld Z h0 a "java/util/Optional" "value" "Ljava/lang/Object;" (.ref k)) :
    MetFree l (⟨"java/util/Optional", "get", "()Ljava/lang/Object;"⟩ : MethodName) (head1 (Jvm.Cond.code (⟨"java/util/Optional", "get", "()Ljava/lang/Object;"⟩ : MethodName) jdk_32_method_5_code 1 (some (.object "java/lang/Object")) :: ws) ({ frames := 0, cells := 0, slots := 0, locals := 0 } : Room)) (fun a_ U_ => a_ = #[(.ref a)] ∧ Z.Warmed39 U_.vm ∧ U_.heap = h0) (fun _ _ _ _ _ => True) (fun _ U_ o_ U'_ => ∃ v_ L_, o_ = .returned v_ ∧ QR (.ref k) h0 n0 v_ U'_.heap L_ ∧ FrameEnd U_ o_ U'_ L_ ({ frames := 0, cells := 0, slots := 0, locals := 0 } : Room).cells ({ frames := 0, cells := 0, slots := 0, locals := 0 } : Room).slots) := by
  refine MetFree.of_bodySF (plainFor_of_name pn_4) hisR ?_
  intro p e s m args below meth c s₁ Bd hml0 hP hK
  obtain ⟨rfl, hZ, hh⟩ := hP
  have hx := Bd.exec
  have hby := Bd.bytes
  have hml : c.maxLocals = 1 := hml0
  have hown : s.vm.findClass "java/util/Optional" = some m.cls := findClass_of_methodNamed Bd.named
  have hnm := (name_of_methodNamed Bd.named Bd.method).1
  have hlk := BodyLoose.notSynchronized Bd
  have X0 : Stand p l e ({ frames := 0, cells := 0, slots := 0, locals := 0 } : Room) s m #[(.ref a)] below meth c s₁ [] 0 0 := Stand.of_body Bd
  have e0 : s₁.heap = h0 := by rw [← hh, Bd.state]; rfl
  have N0 := Fr.nil n0
  refine own_entry (P := own_End s (QR (.ref k) h0 n0) ({ frames := 0, cells := 0, slots := 0, locals := 0 } : Room).cells ({ frames := 0, cells := 0, slots := 0, locals := 0 } : Room).slots) (ef_rmGE m a) ?_
  show own_Go p e below _ s₁ (mkF m 0 #[.val (.ref a)] [])
  refine own_st (fun t_ k_ => XS.aloadN X0.here hx rfl (hb hby d11_0) rfl rfl k_) ?_
  show own_Go p e below _ s₁ (mkF m 1 #[.val (.ref a)] [(.ref a)])
  obtain ⟨T1, X1, e1, st1⟩ := getF X0 hx hZ hown (host := "") (Or.inl (hw _ (List.mem_of_getElem? (i := 84) rfl))) Via.refl e0 F (g := (mkF m 1 #[.val (.ref a)] [(.ref a)])) rfl rfl (hb hby d11_1)
  refine own_st st1 ?_
  show own_Go p e below _ T1 (mkF m 4 #[.val (.ref a)] [(.ref k)])
  refine own_st (fun t_ k_ => XS.ifnonnullYes X1.here hx rfl (pc0 := 4) (pc' := 17) rfl (hb hby d11_4) rfl (by decide) (by decide) k_) ?_
  show own_Go p e below _ T1 (mkF m 17 #[.val (.ref a)] [])
  refine own_st (fun t_ k_ => XS.aloadN X1.here hx rfl (hb hby d11_17) rfl rfl k_) ?_
  show own_Go p e below _ T1 (mkF m 18 #[.val (.ref a)] [(.ref a)])
  obtain ⟨T2, X2, e2, st2⟩ := getF X1 hx hZ hown (host := "") (Or.inl (hw _ (List.mem_of_getElem? (i := 84) rfl))) Via.refl e1 F (g := (mkF m 18 #[.val (.ref a)] [(.ref a)])) rfl rfl (hb hby d11_18)
  refine own_st st2 ?_
  show own_Go p e below _ T2 (mkF m 21 #[.val (.ref a)] [(.ref k)])
  refine own_retA X2 hx hlk Bd.returns rfl rfl (hb hby d11_21) ?_ (by decide) (by decide)
  show QR (.ref k) h0 n0 _ T2.heap _
  rw [e2]
  exact ⟨rfl, N0, rfl⟩
def own_kind (cs : List Int32) (u0 u1 : Addr) : Value := if cs = ([117, 115, 101, 114] : List Int32) then .ref u0 else if cs = ([115, 101, 114, 118, 105, 99, 101] : List Int32) then .ref u1 else .null
theorem d12_0 : decode prog_10_method_5_code 0 = .ok (.invokestatic 33, 3) := by decide +kernel
theorem pd_4 : parseMethodDescriptor "()[Lcom/example/gentle_nudge/gentlenudge/server/AccountKind;" = some ⟨[], some (.array (.object "com/example/gentle_nudge/gentlenudge/server/AccountKind"))⟩ := by decide +kernel
theorem d12_3 : decode prog_10_method_5_code 3 = .ok (.astore_n 1, 1) := by decide +kernel
theorem d12_4 : decode prog_10_method_5_code 4 = .ok (.aload_n 1, 1) := by decide +kernel
theorem d12_5 : decode prog_10_method_5_code 5 = .ok (.arraylength, 1) := by decide +kernel
theorem d12_6 : decode prog_10_method_5_code 6 = .ok (.istore_n 2, 1) := by decide +kernel
theorem d12_7 : decode prog_10_method_5_code 7 = .ok (.iconst 0, 1) := by decide +kernel
theorem d12_8 : decode prog_10_method_5_code 8 = .ok (.istore_n 3, 1) := by decide +kernel
theorem d12_9 : decode prog_10_method_5_code 9 = .ok (.iload_n 3, 1) := by decide +kernel
theorem d12_10 : decode prog_10_method_5_code 10 = .ok (.iload_n 2, 1) := by decide +kernel
theorem d12_11 : decode prog_10_method_5_code 11 = .ok (.if_icmp .ge 32, 3) := by decide +kernel
theorem d12_14 : decode prog_10_method_5_code 14 = .ok (.aload_n 1, 1) := by decide +kernel
theorem d12_15 : decode prog_10_method_5_code 15 = .ok (.iload_n 3, 1) := by decide +kernel
theorem d12_16 : decode prog_10_method_5_code 16 = .ok (.aaload, 1) := by decide +kernel
theorem d12_17 : decode prog_10_method_5_code 17 = .ok (.astore 4, 2) := by decide +kernel
theorem d12_19 : decode prog_10_method_5_code 19 = .ok (.aload 4, 2) := by decide +kernel
theorem d12_21 : decode prog_10_method_5_code 21 = .ok (.getfield 29, 3) := by decide +kernel
theorem d12_24 : decode prog_10_method_5_code 24 = .ok (.aload_n 0, 1) := by decide +kernel
theorem d12_25 : decode prog_10_method_5_code 25 = .ok (.invokevirtual 37, 3) := by decide +kernel
theorem pd_5 : parseMethodDescriptor "(Ljava/lang/Object;)Z" = some ⟨[(.object "java/lang/Object")], some .boolean⟩ := by decide +kernel
theorem d12_28 : decode prog_10_method_5_code 28 = .ok (.ifCond .eq 9, 3) := by decide +kernel
theorem d12_31 : decode prog_10_method_5_code 31 = .ok (.aload 4, 2) := by decide +kernel
theorem d12_33 : decode prog_10_method_5_code 33 = .ok (.invokestatic 43, 3) := by decide +kernel
theorem pd_6 : parseMethodDescriptor "(Ljava/lang/Object;)Ljava/util/Optional;" = some ⟨[(.object "java/lang/Object")], some (.object "java/util/Optional")⟩ := by decide +kernel
theorem d12_36 : decode prog_10_method_5_code 36 = .ok (.areturn, 1) := by decide +kernel
theorem d12_37 : decode prog_10_method_5_code 37 = .ok (.iinc 3 1, 3) := by decide +kernel
theorem d12_40 : decode prog_10_method_5_code 40 = .ok (.goto (-31), 3) := by decide +kernel
theorem d12_43 : decode prog_10_method_5_code 43 = .ok (.invokestatic 49, 3) := by decide +kernel
theorem pd_7 : parseMethodDescriptor "()Ljava/util/Optional;" = some ⟨[], some (.object "java/util/Optional")⟩ := by decide +kernel
theorem d12_46 : decode prog_10_method_5_code 46 = .ok (.areturn, 1) := by decide +kernel
theorem ef_rmFW (m : MethodId) (x0 : Addr) : entryFrame m #[(.ref x0)] 5 = mkF m 0 #[.val (.ref x0), .unset, .unset, .unset, .unset] [] := by first | (simp [entryFrame, mkF, argsToLocals, Value.category]; done) | rfl
set_option maxRecDepth 65536 in
set_option maxHeartbeats 40000000 in
theorem rmFW (l : Launch) (Z : State) (a0 : Array Value) (hw : ∀ d ∈ tables_1, d.before a0 Z = true) (ws : List Jvm.Cond) (n tn : Addr) (kbn : ClassId) (cs : List Int32) (r : Value) (G : Int32) (sv u0 u1 m0 vq0 m1 vq1 em : Addr) (ks kbA kbB : ClassId) (h0 : Heap) (n0 : Nat) (Z0 : n0 ≤ h0.size) (SV : Sta Z Z.heap "com/example/gentle_nudge/gentlenudge/server/AccountKind" "$VALUES" "[Lcom/example/gentle_nudge/gentlenudge/server/AccountKind;" (.ref sv)) (Av : Arv Z h0 sv ks (.object "com/example/gentle_nudge/gentlenudge/server/AccountKind") (2 : Int32) [(.ref u0), (.ref u1)] .null) (Ev : Exa Z h0 sv "[Lcom/example/gentle_nudge/gentlenudge/server/AccountKind;") (Eu0 : Exa Z h0 u0 "com/example/gentle_nudge/gentlenudge/server/AccountKind") (Eu1 : Exa Z h0 u1 "com/example/gentle_nudge/gentlenudge/server/AccountKind") (Fn0 : Fld Z h0 u0 "com/example/gentle_nudge/gentlenudge/server/AccountKind" "wireName" "Ljava/lang/String;" (.ref m0)) (Fn1 : Fld Z h0 u1 "com/example/gentle_nudge/gentlenudge/server/AccountKind" "wireName" "Ljava/lang/String;" (.ref m1)) (EpA : Exa Z h0 m0 "java/lang/String") (CpA : Fld Z h0 m0 "java/lang/String" "coder" "B" (.int 0)) (VpA : Fld Z h0 m0 "java/lang/String" "value" "[B" (.ref vq0)) (ApA : Arv Z h0 vq0 kbA .byte (Int32.ofNat (([117, 115, 101, 114] : List Int32)).length) (((([117, 115, 101, 114] : List Int32)).map (fun c => c.toInt8.toInt32)).map Value.int) (.int 0)) (hppA : ∀ c ∈ ([117, 115, 101, 114] : List Int32), ¬ c < 0 ∧ ¬ (255 : Int32) < c) (l2pA : (([117, 115, 101, 114] : List Int32)).length ≤ 4000) (EpB : Exa Z h0 m1 "java/lang/String") (CpB : Fld Z h0 m1 "java/lang/String" "coder" "B" (.int 0)) (VpB : Fld Z h0 m1 "java/lang/String" "value" "[B" (.ref vq1)) (ApB : Arv Z h0 vq1 kbB .byte (Int32.ofNat (([115, 101, 114, 118, 105, 99, 101] : List Int32)).length) (((([115, 101, 114, 118, 105, 99, 101] : List Int32)).map (fun c => c.toInt8.toInt32)).map Value.int) (.int 0)) (hppB : ∀ c ∈ ([115, 101, 114, 118, 105, 99, 101] : List Int32), ¬ c < 0 ∧ ¬ (255 : Int32) < c) (l2pB : (([115, 101, 114, 118, 105, 99, 101] : List Int32)).length ≤ 4000) (SE : Sta Z Z.heap "java/util/Optional" "EMPTY" "Ljava/util/Optional;" (.ref em)) (Em : Exa Z h0 em "java/util/Optional") (Fm : Fld Z h0 em "java/util/Optional" "value" "Ljava/lang/Object;" .null) (Epn : Exa Z h0 n "java/lang/String") (Cpn : Fld Z h0 n "java/lang/String" "coder" "B" (.int 0)) (Vpn : Fld Z h0 n "java/lang/String" "value" "[B" (.ref tn)) (Apn : Arv Z h0 tn kbn .byte (Int32.ofNat (cs).length) (((cs).map (fun c => c.toInt8.toInt32)).map Value.int) (.int 0)) (hppn : ∀ c ∈ cs, ¬ c < 0 ∧ ¬ (255 : Int32) < c) (l2pn : (cs).length ≤ 4000) (SC : Sta Z Z.heap "java/lang/String" "COMPACT_STRINGS" "Z" (.int G)) (hCS : ¬ G = 0) (O0 : Old Z n0 h0) (hr : r = own_kind cs u0 u1) :
    MetFree l (⟨"com/example/gentle_nudge/gentlenudge/server/AccountKind", "fromWireName", "(Ljava/lang/String;)Ljava/util/Optional;"⟩ : MethodName) (head1 (Jvm.Cond.code (⟨"com/example/gentle_nudge/gentlenudge/server/AccountKind", "fromWireName", "(Ljava/lang/String;)Ljava/util/Optional;"⟩ : MethodName) prog_10_method_5_code 5 (some (.object "java/util/Optional")) :: ws) ({ frames := 3, cells := 2, slots := 3, locals := 38 } : Room)) (fun a_ U_ => a_ = #[(.ref n)] ∧ Z.Warmed39 U_.vm ∧ U_.heap = h0) (fun _ _ _ _ _ => True) (fun _ U_ o_ U'_ => ∃ v_ L_, o_ = .returned v_ ∧ QO Z r h0 n0 v_ U'_.heap L_ ∧ FrameEnd U_ o_ U'_ L_ ({ frames := 3, cells := 2, slots := 3, locals := 38 } : Room).cells ({ frames := 3, cells := 2, slots := 3, locals := 38 } : Room).slots) := by
  refine MetFree.of_bodySF (plainFor_of_name pn_2) hisR ?_
  intro p e s m args below meth c s₁ Bd hml0 hP hK
  obtain ⟨rfl, hZ, hh⟩ := hP
  have hx := Bd.exec
  have hby := Bd.bytes
  have hml : c.maxLocals = 5 := hml0
  have hown : s.vm.findClass "com/example/gentle_nudge/gentlenudge/server/AccountKind" = some m.cls := findClass_of_methodNamed Bd.named
  have hnm := (name_of_methodNamed Bd.named Bd.method).1
  have hlk := BodyLoose.notSynchronized Bd
  have X0 : Stand p l e ({ frames := 3, cells := 2, slots := 3, locals := 38 } : Room) s m #[(.ref n)] below meth c s₁ [] 0 0 := Stand.of_body Bd
  have e0 : s₁.heap = h0 := by rw [← hh, Bd.state]; rfl
  have N0 := Fr.nil n0
  refine own_entry (P := own_End s (QO Z r h0 n0) ({ frames := 3, cells := 2, slots := 3, locals := 38 } : Room).cells ({ frames := 3, cells := 2, slots := 3, locals := 38 } : Room).slots) (ef_rmFW m n) ?_
  show own_Go p e below _ s₁ (mkF m 0 #[.val (.ref n), .unset, .unset, .unset, .unset] [])
  refine own_callS X0 hx (y := (⟨"com/example/gentle_nudge/gentlenudge/server/AccountKind", "values", "()[Lcom/example/gentle_nudge/gentlenudge/server/AccountKind;"⟩ : MethodName)) hown (mvT hZ (hw _ (List.mem_of_getElem? (i := 40) rfl))) (mvT hZ (hw _ (List.mem_of_getElem? (i := 41) rfl))) (mvT hZ (hw _ (List.mem_of_getElem? (i := 38) rfl))) (mvT hZ (hw _ (List.mem_of_getElem? (i := 42) rfl))) (by decide) (backOf (W := 0) (rmVA l Z a0 hw [] sv u0 u1 ks h0 n0 (Nat.le_trans Z0 (Keep.refl h0 []).1) (Sta.ext O0.2 SV) Av Ev) hZ (hw _ (List.mem_of_getElem? (i := 42) rfl)) (hw _ (List.mem_of_getElem? (i := 38) rfl)) (by decide) (by decide)) (g := (mkF m 0 #[.val (.ref n), .unset, .unset, .unset, .unset] [])) rfl (by rw [hml]; rfl) (argsL := []) (rest := []) (lenOf pd_4 rfl) rfl (by show 2 * 0 + _ ≤ _; exact Nat.le_of_eq rfl) (hb hby d12_0) rfl e0 (by decide) (by decide) ?_
  rintro v1 T1 L1 X1 ⟨x1, rfl, Nq1, Kq1, gx1, Ax1⟩
  have N1 := Fr.app N0 Nq1
  have K1 : Keep h0 T1.heap [] := (Keep.refl h0 []).trans Kq1 all0
  show own_Go p e below _ T1 (mkF m 3 #[.val (.ref n), .unset, .unset, .unset, .unset] [(.ref x1)])
  refine own_st (fun t_ k_ => XS.astoreN X1.here hx rfl (hb hby d12_3) rfl rfl (l' := #[.val (.ref n), .val (.ref x1), .unset, .unset, .unset]) rfl k_) ?_
  show own_Go p e below _ T1 (mkF m 4 #[.val (.ref n), .val (.ref x1), .unset, .unset, .unset] [])
  refine own_st (fun t_ k_ => XS.aloadN X1.here hx rfl (hb hby d12_4) rfl rfl k_) ?_
  show own_Go p e below _ T1 (mkF m 5 #[.val (.ref n), .val (.ref x1), .unset, .unset, .unset] [(.ref x1)])
  obtain ⟨cl2, Ar2, -, S2, N2', -, -⟩ := id Ax1
  refine own_st (fun t_ k_ => X1.arraylength hx Ar2.1 (State.isArrayOf_alike hZ.alike Ar2.2.1) (g := (mkF m 5 #[.val (.ref n), .val (.ref x1), .unset, .unset, .unset] [(.ref x1)])) rfl rfl (hb hby d12_5) t_ k_) ?_
  rw [len_of S2 N2']
  show own_Go p e below _ T1 (mkF m 6 #[.val (.ref n), .val (.ref x1), .unset, .unset, .unset] [(.int (2 : Int32))])
  refine own_st (fun t_ k_ => XS.istoreN X1.here hx rfl (hb hby d12_6) rfl (l' := #[.val (.ref n), .val (.ref x1), .val (.int (2 : Int32)), .unset, .unset]) rfl k_) ?_
  show own_Go p e below _ T1 (mkF m 7 #[.val (.ref n), .val (.ref x1), .val (.int (2 : Int32)), .unset, .unset] [])
  refine own_st (fun t_ k_ => XS.iconst X1.here hx rfl (hb hby d12_7) k_) ?_
  show own_Go p e below _ T1 (mkF m 8 #[.val (.ref n), .val (.ref x1), .val (.int (2 : Int32)), .unset, .unset] [(.int (0 : Int32))])
  refine own_st (fun t_ k_ => XS.istoreN X1.here hx rfl (hb hby d12_8) rfl (l' := #[.val (.ref n), .val (.ref x1), .val (.int (2 : Int32)), .val (.int (0 : Int32)), .unset]) rfl k_) ?_
  show own_Go p e below _ T1 (mkF m 9 #[.val (.ref n), .val (.ref x1), .val (.int (2 : Int32)), .val (.int (0 : Int32)), .unset] [])
  refine own_st (fun t_ k_ => XS.iloadN X1.here hx rfl (hb hby d12_9) rfl k_) ?_
  show own_Go p e below _ T1 (mkF m 10 #[.val (.ref n), .val (.ref x1), .val (.int (2 : Int32)), .val (.int (0 : Int32)), .unset] [(.int (0 : Int32))])
  refine own_st (fun t_ k_ => XS.iloadN X1.here hx rfl (hb hby d12_10) rfl k_) ?_
  show own_Go p e below _ T1 (mkF m 11 #[.val (.ref n), .val (.ref x1), .val (.int (2 : Int32)), .val (.int (0 : Int32)), .unset] [(.int (2 : Int32)), (.int (0 : Int32))])
  refine own_st (fun t_ k_ => XS.icmpNo X1.here hx rfl (hb hby d12_11) rfl (by decide) k_) ?_
  show own_Go p e below _ T1 (mkF m 14 #[.val (.ref n), .val (.ref x1), .val (.int (2 : Int32)), .val (.int (0 : Int32)), .unset] [])
  refine own_st (fun t_ k_ => XS.aloadN X1.here hx rfl (hb hby d12_14) rfl rfl k_) ?_
  show own_Go p e below _ T1 (mkF m 15 #[.val (.ref n), .val (.ref x1), .val (.int (2 : Int32)), .val (.int (0 : Int32)), .unset] [(.ref x1)])
  refine own_st (fun t_ k_ => XS.iloadN X1.here hx rfl (hb hby d12_15) rfl k_) ?_
  show own_Go p e below _ T1 (mkF m 16 #[.val (.ref n), .val (.ref x1), .val (.int (2 : Int32)), .val (.int (0 : Int32)), .unset] [(.int (0 : Int32)), (.ref x1)])
  obtain ⟨cl3, Ar3, q3, S3, N3', H3, G3⟩ := id Ax1
  have hin3 : ¬ ((0 : Int32) < 0 ∨ cl3.slots.size ≤ ((0 : Int32)).toNatClampNeg) := inb_of S3 ⟨by decide, by decide⟩
  refine own_st (fun t_ k_ => X1.aaload hx (j := (0 : Int32)) (v := (.ref u0)) Ar3.1 (State.isArrayOf_alike hZ.alike Ar3.2.1) rfl Ar3.2.2 hin3 (Has.at H3 hin3 rfl) (g := (mkF m 16 #[.val (.ref n), .val (.ref x1), .val (.int (2 : Int32)), .val (.int (0 : Int32)), .unset] [(.int (0 : Int32)), (.ref x1)])) rfl rfl (hb hby d12_16) t_ k_) ?_
  show own_Go p e below _ T1 (mkF m 17 #[.val (.ref n), .val (.ref x1), .val (.int (2 : Int32)), .val (.int (0 : Int32)), .unset] [(.ref u0)])
  refine own_st (fun t_ k_ => XS.astore X1.here hx rfl (hb hby d12_17) rfl rfl (l' := #[.val (.ref n), .val (.ref x1), .val (.int (2 : Int32)), .val (.int (0 : Int32)), .val (.ref u0)]) rfl k_) ?_
  show own_Go p e below _ T1 (mkF m 19 #[.val (.ref n), .val (.ref x1), .val (.int (2 : Int32)), .val (.int (0 : Int32)), .val (.ref u0)] [])
  refine own_st (fun t_ k_ => XS.aload X1.here hx rfl (hb hby d12_19) rfl rfl k_) ?_
  show own_Go p e below _ T1 (mkF m 21 #[.val (.ref n), .val (.ref x1), .val (.int (2 : Int32)), .val (.int (0 : Int32)), .val (.ref u0)] [(.ref u0)])
  have f4 := (Fn0.keep Kq1 nin0)
  obtain ⟨T5, X5, e5, st5⟩ := getF X1 hx hZ hown (host := "") (Or.inl (hw _ (List.mem_of_getElem? (i := 57) rfl))) Via.refl rfl f4 (g := (mkF m 21 #[.val (.ref n), .val (.ref x1), .val (.int (2 : Int32)), .val (.int (0 : Int32)), .val (.ref u0)] [(.ref u0)])) rfl rfl (hb hby d12_21)
  refine own_st st5 ?_
  show own_Go p e below _ T5 (mkF m 24 #[.val (.ref n), .val (.ref x1), .val (.int (2 : Int32)), .val (.int (0 : Int32)), .val (.ref u0)] [(.ref m0)])
  refine own_st (fun t_ k_ => XS.aloadN X5.here hx rfl (hb hby d12_24) rfl rfl k_) ?_
  show own_Go p e below _ T5 (mkF m 25 #[.val (.ref n), .val (.ref x1), .val (.int (2 : Int32)), .val (.int (0 : Int32)), .val (.ref u0)] [(.ref n), (.ref m0)])
  have f7 := (O0.keep Kq1 all0)
  have f8 := (VpA.keep Kq1 nin0)
  have f9 := (EpA.keep Kq1)
  have f10 := (CpA.keep Kq1 nin0)
  have f11 := (ApA.keep Kq1 nin0)
  have f12 := (Vpn.keep Kq1 nin0)
  have f13 := (Epn.keep Kq1)
  have f14 := (Cpn.keep Kq1 nin0)
  have f15 := (Apn.keep Kq1 nin0)
  obtain ⟨cq16, kq16, q16a, q16b, q16c⟩ := isOf hZ e5 f9
  refine own_callV X5 hx (y := (⟨"java/lang/String", "equals", "(Ljava/lang/Object;)Z"⟩ : MethodName)) (z := (⟨"java/lang/String", "equals", "(Ljava/lang/Object;)Z"⟩ : MethodName)) hown (mvT hZ (hw _ (List.mem_of_getElem? (i := 59) rfl))) (mvT hZ (hw _ (List.mem_of_getElem? (i := 60) rfl))) (notFace_of_selects (args := #[]) (mvT hZ (hw _ (List.mem_of_getElem? (i := 62) rfl)))) (mvT hZ (hw _ (List.mem_of_getElem? (i := 62) rfl))) (mvT hZ (hw _ (List.mem_of_getElem? (i := 61) rfl))) (by decide) (own_eqB (StrChars.Road.eqW (W := 0) hZ (own_wEq hw) (kI := 4) (hw _ (List.mem_of_getElem? (i := 8) rfl)) f9 f8 f10 f11 (StrChars.Road.codOf rfl (fun c hc => (hppA c hc).2)) (own_up hppA) l2pA f13 f12 f14 f15 (StrChars.Road.codOf rfl (fun c hc => (hppn c hc).2)) (own_up hppn) l2pn (Sta.ext f7.2 SC) hCS (by decide) (by decide))) q16a q16c (g := (mkF m 25 #[.val (.ref n), .val (.ref x1), .val (.int (2 : Int32)), .val (.int (0 : Int32)), .val (.ref u0)] [(.ref n), (.ref m0)])) rfl (by rw [hml]; rfl) (argsL := [(.ref n)]) (rest := []) (lenOf pd_5 rfl) rfl (by show 2 * 0 + _ ≤ _; exact Nat.le_of_eq rfl) (hb hby d12_25) rfl e5 (by decide) (by decide) ?_
  rintro v6 T6 L6 X6 ⟨hcase6, rfl, hh6⟩
  have Nq6 := Fr.nil n0
  have N6 := Fr.app N1 Nq6
  rcases hcase6 with ⟨rfl, hcs6⟩ | ⟨rfl, hcs6⟩
  · show own_Go p e below _ T6 (mkF m 28 #[.val (.ref n), .val (.ref x1), .val (.int (2 : Int32)), .val (.int (0 : Int32)), .val (.ref u0)] [(.int (1 : Int32))])
    refine own_st (fun t_ k_ => XS.ifNo X6.here hx rfl (hb hby d12_28) rfl (by decide) k_) ?_
    show own_Go p e below _ T6 (mkF m 31 #[.val (.ref n), .val (.ref x1), .val (.int (2 : Int32)), .val (.int (0 : Int32)), .val (.ref u0)] [])
    refine own_st (fun t_ k_ => XS.aload X6.here hx rfl (hb hby d12_31) rfl rfl k_) ?_
    show own_Go p e below _ T6 (mkF m 33 #[.val (.ref n), .val (.ref x1), .val (.int (2 : Int32)), .val (.int (0 : Int32)), .val (.ref u0)] [(.ref u0)])
    refine own_callS X6 hx (y := (⟨"java/util/Optional", "of", "(Ljava/lang/Object;)Ljava/util/Optional;"⟩ : MethodName)) hown (mvT hZ (hw _ (List.mem_of_getElem? (i := 69) rfl))) (mvT hZ (hw _ (List.mem_of_getElem? (i := 70) rfl))) (mvT hZ (hw _ (List.mem_of_getElem? (i := 71) rfl))) (mvT hZ (hw _ (List.mem_of_getElem? (i := 72) rfl))) (by decide) (backOf (W := 0) (rmOF l Z a0 hw [] u0 T1.heap n0 (Nat.le_trans Z0 K1.1)) hZ (hw _ (List.mem_of_getElem? (i := 72) rfl)) (hw _ (List.mem_of_getElem? (i := 71) rfl)) (by decide) (by decide)) (g := (mkF m 33 #[.val (.ref n), .val (.ref x1), .val (.int (2 : Int32)), .val (.int (0 : Int32)), .val (.ref u0)] [(.ref u0)])) rfl (by rw [hml]; rfl) (argsL := [(.ref u0)]) (rest := []) (lenOf pd_6 rfl) rfl (by show 2 * 0 + _ ≤ _; exact Nat.le_of_eq rfl) (hb hby d12_33) rfl hh6 (by decide) (by decide) ?_
    rintro v17 T17 L17 X17 ⟨o17, rfl, Nq17, Kq17, Eo17, Fo17⟩
    have N17 := Fr.app N6 Nq17
    have K17 : Keep h0 T17.heap [] := K1.trans Kq17 all0
    show own_Go p e below _ T17 (mkF m 36 #[.val (.ref n), .val (.ref x1), .val (.int (2 : Int32)), .val (.int (0 : Int32)), .val (.ref u0)] [(.ref o17)])
    have er : r = (.ref u0) := by rw [hr, own_kind, if_pos hcs6.symm]
    refine own_retA X17 hx hlk Bd.returns rfl rfl (hb hby d12_36) ?_ (by decide) (by decide)
    show QO Z r h0 n0 _ T17.heap _
    exact ⟨o17, rfl, N17, K17, Eo17, by rw [er]; exact Fo17⟩
  · show own_Go p e below _ T6 (mkF m 28 #[.val (.ref n), .val (.ref x1), .val (.int (2 : Int32)), .val (.int (0 : Int32)), .val (.ref u0)] [(.int (0 : Int32))])
    refine own_st (fun t_ k_ => XS.ifYes X6.here hx rfl (pc0 := 28) (pc' := 37) rfl (hb hby d12_28) rfl (by decide) (by decide) (by decide) k_) ?_
    show own_Go p e below _ T6 (mkF m 37 #[.val (.ref n), .val (.ref x1), .val (.int (2 : Int32)), .val (.int (0 : Int32)), .val (.ref u0)] [])
    refine own_st (fun t_ k_ => XS.iinc X6.here hx rfl (hb hby d12_37) rfl (l' := #[.val (.ref n), .val (.ref x1), .val (.int (2 : Int32)), .val (.int (1 : Int32)), .val (.ref u0)]) rfl k_) ?_
    show own_Go p e below _ T6 (mkF m 40 #[.val (.ref n), .val (.ref x1), .val (.int (2 : Int32)), .val (.int (1 : Int32)), .val (.ref u0)] [])
    refine own_st (fun t_ k_ => XS.goto X6.here hx rfl (pc0 := 40) (pc' := 9) rfl (hb hby d12_40) (by decide) (by decide) k_) ?_
    show own_Go p e below _ T6 (mkF m 9 #[.val (.ref n), .val (.ref x1), .val (.int (2 : Int32)), .val (.int (1 : Int32)), .val (.ref u0)] [])
    refine own_st (fun t_ k_ => XS.iloadN X6.here hx rfl (hb hby d12_9) rfl k_) ?_
    show own_Go p e below _ T6 (mkF m 10 #[.val (.ref n), .val (.ref x1), .val (.int (2 : Int32)), .val (.int (1 : Int32)), .val (.ref u0)] [(.int (1 : Int32))])
    refine own_st (fun t_ k_ => XS.iloadN X6.here hx rfl (hb hby d12_10) rfl k_) ?_
    show own_Go p e below _ T6 (mkF m 11 #[.val (.ref n), .val (.ref x1), .val (.int (2 : Int32)), .val (.int (1 : Int32)), .val (.ref u0)] [(.int (2 : Int32)), (.int (1 : Int32))])
    refine own_st (fun t_ k_ => XS.icmpNo X6.here hx rfl (hb hby d12_11) rfl (by decide) k_) ?_
    show own_Go p e below _ T6 (mkF m 14 #[.val (.ref n), .val (.ref x1), .val (.int (2 : Int32)), .val (.int (1 : Int32)), .val (.ref u0)] [])
    refine own_st (fun t_ k_ => XS.aloadN X6.here hx rfl (hb hby d12_14) rfl rfl k_) ?_
    show own_Go p e below _ T6 (mkF m 15 #[.val (.ref n), .val (.ref x1), .val (.int (2 : Int32)), .val (.int (1 : Int32)), .val (.ref u0)] [(.ref x1)])
    refine own_st (fun t_ k_ => XS.iloadN X6.here hx rfl (hb hby d12_15) rfl k_) ?_
    show own_Go p e below _ T6 (mkF m 16 #[.val (.ref n), .val (.ref x1), .val (.int (2 : Int32)), .val (.int (1 : Int32)), .val (.ref u0)] [(.int (1 : Int32)), (.ref x1)])
    obtain ⟨cl18, Ar18, q18, S18, N18', H18, G18⟩ := id Ax1
    have hin18 : ¬ ((1 : Int32) < 0 ∨ cl18.slots.size ≤ ((1 : Int32)).toNatClampNeg) := inb_of S18 ⟨by decide, by decide⟩
    refine own_st (fun t_ k_ => X6.aaload hx (j := (1 : Int32)) (v := (.ref u1)) (by rw [hh6]; exact Ar18.1) (State.isArrayOf_alike hZ.alike Ar18.2.1) rfl Ar18.2.2 hin18 (Has.at H18 hin18 rfl) (g := (mkF m 16 #[.val (.ref n), .val (.ref x1), .val (.int (2 : Int32)), .val (.int (1 : Int32)), .val (.ref u0)] [(.int (1 : Int32)), (.ref x1)])) rfl rfl (hb hby d12_16) t_ k_) ?_
    show own_Go p e below _ T6 (mkF m 17 #[.val (.ref n), .val (.ref x1), .val (.int (2 : Int32)), .val (.int (1 : Int32)), .val (.ref u0)] [(.ref u1)])
    refine own_st (fun t_ k_ => XS.astore X6.here hx rfl (hb hby d12_17) rfl rfl (l' := #[.val (.ref n), .val (.ref x1), .val (.int (2 : Int32)), .val (.int (1 : Int32)), .val (.ref u1)]) rfl k_) ?_
    show own_Go p e below _ T6 (mkF m 19 #[.val (.ref n), .val (.ref x1), .val (.int (2 : Int32)), .val (.int (1 : Int32)), .val (.ref u1)] [])
    refine own_st (fun t_ k_ => XS.aload X6.here hx rfl (hb hby d12_19) rfl rfl k_) ?_
    show own_Go p e below _ T6 (mkF m 21 #[.val (.ref n), .val (.ref x1), .val (.int (2 : Int32)), .val (.int (1 : Int32)), .val (.ref u1)] [(.ref u1)])
    have f19 := (Fn1.keep Kq1 nin0)
    obtain ⟨T20, X20, e20, st20⟩ := getF X6 hx hZ hown (host := "") (Or.inl (hw _ (List.mem_of_getElem? (i := 57) rfl))) Via.refl hh6 f19 (g := (mkF m 21 #[.val (.ref n), .val (.ref x1), .val (.int (2 : Int32)), .val (.int (1 : Int32)), .val (.ref u1)] [(.ref u1)])) rfl rfl (hb hby d12_21)
    refine own_st st20 ?_
    show own_Go p e below _ T20 (mkF m 24 #[.val (.ref n), .val (.ref x1), .val (.int (2 : Int32)), .val (.int (1 : Int32)), .val (.ref u1)] [(.ref m1)])
    refine own_st (fun t_ k_ => XS.aloadN X20.here hx rfl (hb hby d12_24) rfl rfl k_) ?_
    show own_Go p e below _ T20 (mkF m 25 #[.val (.ref n), .val (.ref x1), .val (.int (2 : Int32)), .val (.int (1 : Int32)), .val (.ref u1)] [(.ref n), (.ref m1)])
    have f22 := (VpB.keep Kq1 nin0)
    have f23 := (EpB.keep Kq1)
    have f24 := (CpB.keep Kq1 nin0)
    have f25 := (ApB.keep Kq1 nin0)
    obtain ⟨cq26, kq26, q26a, q26b, q26c⟩ := isOf hZ e20 f23
    refine own_callV X20 hx (y := (⟨"java/lang/String", "equals", "(Ljava/lang/Object;)Z"⟩ : MethodName)) (z := (⟨"java/lang/String", "equals", "(Ljava/lang/Object;)Z"⟩ : MethodName)) hown (mvT hZ (hw _ (List.mem_of_getElem? (i := 59) rfl))) (mvT hZ (hw _ (List.mem_of_getElem? (i := 60) rfl))) (notFace_of_selects (args := #[]) (mvT hZ (hw _ (List.mem_of_getElem? (i := 62) rfl)))) (mvT hZ (hw _ (List.mem_of_getElem? (i := 62) rfl))) (mvT hZ (hw _ (List.mem_of_getElem? (i := 61) rfl))) (by decide) (own_eqB (StrChars.Road.eqW (W := 0) hZ (own_wEq hw) (kI := 4) (hw _ (List.mem_of_getElem? (i := 8) rfl)) f23 f22 f24 f25 (StrChars.Road.codOf rfl (fun c hc => (hppB c hc).2)) (own_up hppB) l2pB f13 f12 f14 f15 (StrChars.Road.codOf rfl (fun c hc => (hppn c hc).2)) (own_up hppn) l2pn (Sta.ext f7.2 SC) hCS (by decide) (by decide))) q26a q26c (g := (mkF m 25 #[.val (.ref n), .val (.ref x1), .val (.int (2 : Int32)), .val (.int (1 : Int32)), .val (.ref u1)] [(.ref n), (.ref m1)])) rfl (by rw [hml]; rfl) (argsL := [(.ref n)]) (rest := []) (lenOf pd_5 rfl) rfl (by show 2 * 0 + _ ≤ _; exact Nat.le_of_eq rfl) (hb hby d12_25) rfl e20 (by decide) (by decide) ?_
    rintro v21 T21 L21 X21 ⟨hcase21, rfl, hh21⟩
    have Nq21 := Fr.nil n0
    have N21 := Fr.app N6 Nq21
    rcases hcase21 with ⟨rfl, hcs21⟩ | ⟨rfl, hcs21⟩
    · show own_Go p e below _ T21 (mkF m 28 #[.val (.ref n), .val (.ref x1), .val (.int (2 : Int32)), .val (.int (1 : Int32)), .val (.ref u1)] [(.int (1 : Int32))])
      refine own_st (fun t_ k_ => XS.ifNo X21.here hx rfl (hb hby d12_28) rfl (by decide) k_) ?_
      show own_Go p e below _ T21 (mkF m 31 #[.val (.ref n), .val (.ref x1), .val (.int (2 : Int32)), .val (.int (1 : Int32)), .val (.ref u1)] [])
      refine own_st (fun t_ k_ => XS.aload X21.here hx rfl (hb hby d12_31) rfl rfl k_) ?_
      show own_Go p e below _ T21 (mkF m 33 #[.val (.ref n), .val (.ref x1), .val (.int (2 : Int32)), .val (.int (1 : Int32)), .val (.ref u1)] [(.ref u1)])
      refine own_callS X21 hx (y := (⟨"java/util/Optional", "of", "(Ljava/lang/Object;)Ljava/util/Optional;"⟩ : MethodName)) hown (mvT hZ (hw _ (List.mem_of_getElem? (i := 69) rfl))) (mvT hZ (hw _ (List.mem_of_getElem? (i := 70) rfl))) (mvT hZ (hw _ (List.mem_of_getElem? (i := 71) rfl))) (mvT hZ (hw _ (List.mem_of_getElem? (i := 72) rfl))) (by decide) (backOf (W := 0) (rmOF l Z a0 hw [] u1 T1.heap n0 (Nat.le_trans Z0 K1.1)) hZ (hw _ (List.mem_of_getElem? (i := 72) rfl)) (hw _ (List.mem_of_getElem? (i := 71) rfl)) (by decide) (by decide)) (g := (mkF m 33 #[.val (.ref n), .val (.ref x1), .val (.int (2 : Int32)), .val (.int (1 : Int32)), .val (.ref u1)] [(.ref u1)])) rfl (by rw [hml]; rfl) (argsL := [(.ref u1)]) (rest := []) (lenOf pd_6 rfl) rfl (by show 2 * 0 + _ ≤ _; exact Nat.le_of_eq rfl) (hb hby d12_33) rfl hh21 (by decide) (by decide) ?_
      rintro v27 T27 L27 X27 ⟨o27, rfl, Nq27, Kq27, Eo27, Fo27⟩
      have N27 := Fr.app N21 Nq27
      have K27 : Keep h0 T27.heap [] := K1.trans Kq27 all0
      show own_Go p e below _ T27 (mkF m 36 #[.val (.ref n), .val (.ref x1), .val (.int (2 : Int32)), .val (.int (1 : Int32)), .val (.ref u1)] [(.ref o27)])
      have er : r = (.ref u1) := by rw [hr, own_kind, if_neg (fun q => hcs6 q.symm), if_pos hcs21.symm]
      refine own_retA X27 hx hlk Bd.returns rfl rfl (hb hby d12_36) ?_ (by decide) (by decide)
      show QO Z r h0 n0 _ T27.heap _
      exact ⟨o27, rfl, N27, K27, Eo27, by rw [er]; exact Fo27⟩
    · show own_Go p e below _ T21 (mkF m 28 #[.val (.ref n), .val (.ref x1), .val (.int (2 : Int32)), .val (.int (1 : Int32)), .val (.ref u1)] [(.int (0 : Int32))])
      refine own_st (fun t_ k_ => XS.ifYes X21.here hx rfl (pc0 := 28) (pc' := 37) rfl (hb hby d12_28) rfl (by decide) (by decide) (by decide) k_) ?_
      show own_Go p e below _ T21 (mkF m 37 #[.val (.ref n), .val (.ref x1), .val (.int (2 : Int32)), .val (.int (1 : Int32)), .val (.ref u1)] [])
      refine own_st (fun t_ k_ => XS.iinc X21.here hx rfl (hb hby d12_37) rfl (l' := #[.val (.ref n), .val (.ref x1), .val (.int (2 : Int32)), .val (.int (2 : Int32)), .val (.ref u1)]) rfl k_) ?_
      show own_Go p e below _ T21 (mkF m 40 #[.val (.ref n), .val (.ref x1), .val (.int (2 : Int32)), .val (.int (2 : Int32)), .val (.ref u1)] [])
      refine own_st (fun t_ k_ => XS.goto X21.here hx rfl (pc0 := 40) (pc' := 9) rfl (hb hby d12_40) (by decide) (by decide) k_) ?_
      show own_Go p e below _ T21 (mkF m 9 #[.val (.ref n), .val (.ref x1), .val (.int (2 : Int32)), .val (.int (2 : Int32)), .val (.ref u1)] [])
      refine own_st (fun t_ k_ => XS.iloadN X21.here hx rfl (hb hby d12_9) rfl k_) ?_
      show own_Go p e below _ T21 (mkF m 10 #[.val (.ref n), .val (.ref x1), .val (.int (2 : Int32)), .val (.int (2 : Int32)), .val (.ref u1)] [(.int (2 : Int32))])
      refine own_st (fun t_ k_ => XS.iloadN X21.here hx rfl (hb hby d12_10) rfl k_) ?_
      show own_Go p e below _ T21 (mkF m 11 #[.val (.ref n), .val (.ref x1), .val (.int (2 : Int32)), .val (.int (2 : Int32)), .val (.ref u1)] [(.int (2 : Int32)), (.int (2 : Int32))])
      refine own_st (fun t_ k_ => XS.icmpYes X21.here hx rfl (pc0 := 11) (pc' := 43) rfl (hb hby d12_11) rfl (by decide) (by decide) (by decide) k_) ?_
      show own_Go p e below _ T21 (mkF m 43 #[.val (.ref n), .val (.ref x1), .val (.int (2 : Int32)), .val (.int (2 : Int32)), .val (.ref u1)] [])
      refine own_callS X21 hx (y := (⟨"java/util/Optional", "empty", "()Ljava/util/Optional;"⟩ : MethodName)) hown (mvT hZ (hw _ (List.mem_of_getElem? (i := 102) rfl))) (mvT hZ (hw _ (List.mem_of_getElem? (i := 103) rfl))) (mvT hZ (hw _ (List.mem_of_getElem? (i := 71) rfl))) (mvT hZ (hw _ (List.mem_of_getElem? (i := 104) rfl))) (by decide) (backOf (W := 0) (rmEM l Z a0 hw [] em T1.heap n0 (Nat.le_trans Z0 K1.1) (Sta.ext f7.2 SE)) hZ (hw _ (List.mem_of_getElem? (i := 104) rfl)) (hw _ (List.mem_of_getElem? (i := 71) rfl)) (by decide) (by decide)) (g := (mkF m 43 #[.val (.ref n), .val (.ref x1), .val (.int (2 : Int32)), .val (.int (2 : Int32)), .val (.ref u1)] [])) rfl (by rw [hml]; rfl) (argsL := []) (rest := []) (lenOf pd_7 rfl) rfl (by show 2 * 0 + _ ≤ _; exact Nat.le_of_eq rfl) (hb hby d12_43) rfl hh21 (by decide) (by decide) ?_
      rintro v28 T28 L28 X28 ⟨rfl, Nq28, hh28⟩
      have N28 := Fr.app N21 Nq28
      show own_Go p e below _ T28 (mkF m 46 #[.val (.ref n), .val (.ref x1), .val (.int (2 : Int32)), .val (.int (2 : Int32)), .val (.ref u1)] [(.ref em)])
      have er : r = .null := by rw [hr, own_kind, if_neg (fun q => hcs6 q.symm), if_neg (fun q => hcs21 q.symm)]
      have f29 := (Em.keep Kq1)
      have f30 := (Fm.keep Kq1 nin0)
      refine own_retA X28 hx hlk Bd.returns rfl rfl (hb hby d12_46) ?_ (by decide) (by decide)
      show QO Z r h0 n0 _ T28.heap _
      rw [hh28]
      exact ⟨em, rfl, N28, K1, f29, by rw [er]; exact f30⟩
def Q0 (n0 : Nat) (v : Option Value) (h : Heap) (L : List Loc) : Prop := v = some (.int 1) ∧ Fr n0 L
theorem own_user (n : Int32) (x0 x1 x2 x3 x4 x5 x6 x7 : Int32) (hn : own_N9 n) : own_str n [x0, x1, x2, x3, x4, x5, x6, x7] = ([117, 115, 101, 114] : List Int32) ↔ (n = (4 : Int32) ∧ x0 = (117 : Int32) ∧ x1 = (115 : Int32) ∧ x2 = (101 : Int32) ∧ x3 = (114 : Int32)) := by
  rcases hn with rfl | rfl | rfl | rfl | rfl | rfl | rfl | rfl | rfl <;> simp [own_str]
theorem own_serv (n : Int32) (x0 x1 x2 x3 x4 x5 x6 x7 : Int32) (hn : own_N9 n) : own_str n [x0, x1, x2, x3, x4, x5, x6, x7] = ([115, 101, 114, 118, 105, 99, 101] : List Int32) ↔ (n = (7 : Int32) ∧ x0 = (115 : Int32) ∧ x1 = (101 : Int32) ∧ x2 = (114 : Int32) ∧ x3 = (118 : Int32) ∧ x4 = (105 : Int32) ∧ x5 = (99 : Int32) ∧ x6 = (101 : Int32)) := by
  rcases hn with rfl | rfl | rfl | rfl | rfl | rfl | rfl | rfl | rfl <;> simp [own_str]
theorem own_strl (n : Int32) (x0 x1 x2 x3 x4 x5 x6 x7 : Int32) : (own_str n [x0, x1, x2, x3, x4, x5, x6, x7]).length ≤ 4000 := by
  unfold own_str
  rw [List.length_take]
  exact Nat.le_trans (Nat.min_le_right _ _) (by decide : (8 : Nat) ≤ 4000)
theorem own_mod3 (k : Int32) : (k &&& (2147483647 : Int32)) % (3 : Int32) = (0 : Int32) ∨ (k &&& (2147483647 : Int32)) % (3 : Int32) = (1 : Int32) ∨ (k &&& (2147483647 : Int32)) % (3 : Int32) = (2 : Int32) := by
  have h1 := c_and k (2147483647 : Int32) (by decide)
  have h2 := (c_irem (k &&& (2147483647 : Int32)) 3 3 rfl).1 h1.1
  have h3 : ((k &&& (2147483647 : Int32)) % (3 : Int32)).toInt = 0 ∨ ((k &&& (2147483647 : Int32)) % (3 : Int32)).toInt = 1 ∨ ((k &&& (2147483647 : Int32)) % (3 : Int32)).toInt = 2 := by omega
  simp only [← Int32.toInt_inj]
  exact h3
theorem own_and7 (x : Int32) : x &&& (7 : Int32) = (0 : Int32) ∨ x &&& (7 : Int32) = (1 : Int32) ∨ x &&& (7 : Int32) = (2 : Int32) ∨ x &&& (7 : Int32) = (3 : Int32) ∨ x &&& (7 : Int32) = (4 : Int32) ∨ x &&& (7 : Int32) = (5 : Int32) ∨ x &&& (7 : Int32) = (6 : Int32) ∨ x &&& (7 : Int32) = (7 : Int32) := by
  have h := c_and x (7 : Int32) (by decide)
  have e : (7 : Int32).toInt = 7 := rfl
  have h3 : (x &&& (7 : Int32)).toInt = 0 ∨ (x &&& (7 : Int32)).toInt = 1 ∨ (x &&& (7 : Int32)).toInt = 2 ∨ (x &&& (7 : Int32)).toInt = 3 ∨ (x &&& (7 : Int32)).toInt = 4 ∨ (x &&& (7 : Int32)).toInt = 5 ∨ (x &&& (7 : Int32)).toInt = 6 ∨ (x &&& (7 : Int32)).toInt = 7 := by omega
  simp only [← Int32.toInt_inj]
  exact h3
theorem pd_8 : parseMethodDescriptor "(II)I" = some ⟨[.int, .int], some .int⟩ := by decide +kernel
theorem pd_9 : parseMethodDescriptor "(I[C)Ljava/lang/String;" = some ⟨[.int, (.array .char)], some (.object "java/lang/String")⟩ := by decide +kernel
theorem pd_10 : parseMethodDescriptor "(Ljava/lang/String;)Ljava/util/Optional;" = some ⟨[(.object "java/lang/String")], some (.object "java/util/Optional")⟩ := by decide +kernel
theorem pd_11 : parseMethodDescriptor "()Z" = some ⟨[], some .boolean⟩ := by decide +kernel
theorem pd_12 : parseMethodDescriptor "()Ljava/lang/Object;" = some ⟨[], some (.object "java/lang/Object")⟩ := by decide +kernel
theorem ef_rm0 (m : MethodId) (x0 : Int32) (x1 : Int32) (x2 : Int32) (x3 : Int32) (x4 : Int64) : entryFrame m #[(.int x0), (.int x1), (.int x2), (.int x3), (.long x4)] maxLocals = mkF m 0 #[.val (.int x0), .val (.int x1), .val (.int x2), .val (.int x3), .val (.long x4), .second, .unset, .unset, .unset, .unset, .unset, .unset, .unset] [] := by first | (simp [entryFrame, mkF, argsToLocals, Value.category, maxLocals]; done) | rfl
set_option maxRecDepth 65536 in
set_option maxHeartbeats 40000000 in
theorem rm0 (l : Launch) (Z : State) (a0 : Array Value) (hw : ∀ d ∈ tables_1, d.before a0 Z = true) (ws : List Jvm.Cond) (mo po cc ls : Int32) (ch : Int64) (G : Int32) (sv u0 u1 m0 vq0 m1 vq1 em : Addr) (ks kbA kbB : ClassId) (h0 : Heap) (n0 : Nat) (Z0 : n0 ≤ h0.size) (SC : Sta Z Z.heap "java/lang/String" "COMPACT_STRINGS" "Z" (.int G)) (hCS : ¬ G = 0) (O0 : Old Z n0 h0) (SV : Sta Z Z.heap "com/example/gentle_nudge/gentlenudge/server/AccountKind" "$VALUES" "[Lcom/example/gentle_nudge/gentlenudge/server/AccountKind;" (.ref sv)) (Av : Arv Z h0 sv ks (.object "com/example/gentle_nudge/gentlenudge/server/AccountKind") (2 : Int32) [(.ref u0), (.ref u1)] .null) (Ev : Exa Z h0 sv "[Lcom/example/gentle_nudge/gentlenudge/server/AccountKind;") (Eu0 : Exa Z h0 u0 "com/example/gentle_nudge/gentlenudge/server/AccountKind") (Eu1 : Exa Z h0 u1 "com/example/gentle_nudge/gentlenudge/server/AccountKind") (Fn0 : Fld Z h0 u0 "com/example/gentle_nudge/gentlenudge/server/AccountKind" "wireName" "Ljava/lang/String;" (.ref m0)) (Fn1 : Fld Z h0 u1 "com/example/gentle_nudge/gentlenudge/server/AccountKind" "wireName" "Ljava/lang/String;" (.ref m1)) (EpA : Exa Z h0 m0 "java/lang/String") (CpA : Fld Z h0 m0 "java/lang/String" "coder" "B" (.int 0)) (VpA : Fld Z h0 m0 "java/lang/String" "value" "[B" (.ref vq0)) (ApA : Arv Z h0 vq0 kbA .byte (Int32.ofNat (([117, 115, 101, 114] : List Int32)).length) (((([117, 115, 101, 114] : List Int32)).map (fun c => c.toInt8.toInt32)).map Value.int) (.int 0)) (hppA : ∀ c ∈ ([117, 115, 101, 114] : List Int32), ¬ c < 0 ∧ ¬ (255 : Int32) < c) (l2pA : (([117, 115, 101, 114] : List Int32)).length ≤ 4000) (EpB : Exa Z h0 m1 "java/lang/String") (CpB : Fld Z h0 m1 "java/lang/String" "coder" "B" (.int 0)) (VpB : Fld Z h0 m1 "java/lang/String" "value" "[B" (.ref vq1)) (ApB : Arv Z h0 vq1 kbB .byte (Int32.ofNat (([115, 101, 114, 118, 105, 99, 101] : List Int32)).length) (((([115, 101, 114, 118, 105, 99, 101] : List Int32)).map (fun c => c.toInt8.toInt32)).map Value.int) (.int 0)) (hppB : ∀ c ∈ ([115, 101, 114, 118, 105, 99, 101] : List Int32), ¬ c < 0 ∧ ¬ (255 : Int32) < c) (l2pB : (([115, 101, 114, 118, 105, 99, 101] : List Int32)).length ≤ 4000) (SE : Sta Z Z.heap "java/util/Optional" "EMPTY" "Ljava/util/Optional;" (.ref em)) (Em : Exa Z h0 em "java/util/Optional") (Fm : Fld Z h0 em "java/util/Optional" "value" "Ljava/lang/Object;" .null) (S0 : Sta Z Z.heap "com/example/gentle_nudge/gentlenudge/server/AccountKind" "USER" "Lcom/example/gentle_nudge/gentlenudge/server/AccountKind;" (.ref u0)) (S1 : Sta Z Z.heap "com/example/gentle_nudge/gentlenudge/server/AccountKind" "SERVICE" "Lcom/example/gentle_nudge/gentlenudge/server/AccountKind;" (.ref u1)) :
    MetFree l x (head1 (Jvm.Cond.code x code maxLocals ret :: ws) room_1) (fun a_ U_ => a_ = #[(.int mo), (.int po), (.int cc), (.int ls), (.long ch)] ∧ Z.Warmed39 U_.vm ∧ U_.heap = h0 ∧ CHv Z consts_1 U_.vm h0) (fun _ _ _ _ _ => True) (fun _ U_ o_ U'_ => ∃ v_ L_, o_ = .returned v_ ∧ Q0 n0 v_ U'_.heap L_ ∧ CHr Z consts_1 U_.vm U_.heap U'_.vm U'_.heap ∧ ReturnedEndW U_ o_ U'_ L_ 24 1152) := by
  refine MetFree.of_bodySF (plainFor_of_name pn_1) hisR ?_
  intro p e s m args below meth c s₁ Bd hml0 hP hK
  obtain ⟨rfl, hZ, hh, hC0⟩ := hP
  have hx := Bd.exec
  have hby := Bd.bytes
  have hml : c.maxLocals = 13 := hml0
  have hown : s.vm.findClass "com/example/gentle_nudge/gentlenudge/server/AccountKindFromWireNamePinLaw" = some m.cls := findClass_of_methodNamed Bd.named
  have hnm := (name_of_methodNamed Bd.named Bd.method).1
  have hlk := BodyLoose.notSynchronized Bd
  have X0 : Stand p l e room_1 (s.setVm s.vm) m #[(.int mo), (.int po), (.int cc), (.int ls), (.long ch)] below meth c s₁ [] 0 0 := Stand.of_body Bd
  have e0 : s₁.heap = h0 := by rw [← hh, Bd.state]; rfl
  have N0 := Fr.nil n0
  have hEL := own_EL hw
  have B0 : own_Bk Z consts_1 s h0 s.vm h0 := own_Bk.start hC0
  refine own_entry (P := own_EndS Z consts_1 s (Q0 n0) 24 1152) (ef_rm0 m mo po cc ls ch) ?_
  show own_Go p e below _ s₁ (mkF m 0 #[.val (.int mo), .val (.int po), .val (.int cc), .val (.int ls), .val (.long ch), .second, .unset, .unset, .unset, .unset, .unset, .unset, .unset] [])
  refine own_st (fun t_ k_ => XS.iloadN X0.here hx rfl (hb hby at_0) rfl k_) ?_
  show own_Go p e below _ s₁ (mkF m 1 #[.val (.int mo), .val (.int po), .val (.int cc), .val (.int ls), .val (.long ch), .second, .unset, .unset, .unset, .unset, .unset, .unset, .unset] [(.int mo)])
  refine own_st (fun t_ k_ => X0.ldcI hx hown (mvT hZ (hw _ (List.mem_of_getElem? (i := 0) rfl))) rfl (hb hby at_1) k_) ?_
  show own_Go p e below _ s₁ (mkF m 3 #[.val (.int mo), .val (.int po), .val (.int cc), .val (.int ls), .val (.long ch), .second, .unset, .unset, .unset, .unset, .unset, .unset, .unset] [(.int (2147483647 : Int32)), (.int mo)])
  refine own_st (fun t_ k_ => XS.iand X0.here hx rfl (hb hby at_3) rfl k_) ?_
  show own_Go p e below _ s₁ (mkF m 4 #[.val (.int mo), .val (.int po), .val (.int cc), .val (.int ls), .val (.long ch), .second, .unset, .unset, .unset, .unset, .unset, .unset, .unset] [(.int (mo &&& (2147483647 : Int32)))])
  refine own_st (fun t_ k_ => XS.iconst X0.here hx rfl (hb hby at_4) k_) ?_
  show own_Go p e below _ s₁ (mkF m 5 #[.val (.int mo), .val (.int po), .val (.int cc), .val (.int ls), .val (.long ch), .second, .unset, .unset, .unset, .unset, .unset, .unset, .unset] [(.int (3 : Int32)), (.int (mo &&& (2147483647 : Int32)))])
  refine own_st (fun t_ k_ => Jvm.RoadKit.iremM (g := (mkF m 5 #[.val (.int mo), .val (.int po), .val (.int cc), .val (.int ls), .val (.long ch), .second, .unset, .unset, .unset, .unset, .unset, .unset, .unset] [(.int (3 : Int32)), (.int (mo &&& (2147483647 : Int32)))])) X0 hx rfl (hb hby at_5) rfl (by decide) k_) ?_
  show own_Go p e below _ s₁ (mkF m 6 #[.val (.int mo), .val (.int po), .val (.int cc), .val (.int ls), .val (.long ch), .second, .unset, .unset, .unset, .unset, .unset, .unset, .unset] [(.int ((mo &&& (2147483647 : Int32)) % (3 : Int32)))])
  have d_mm : ((mo &&& (2147483647 : Int32)) % (3 : Int32)) = (0 : Int32) ∨ ((mo &&& (2147483647 : Int32)) % (3 : Int32)) = (1 : Int32) ∨ ((mo &&& (2147483647 : Int32)) % (3 : Int32)) = (2 : Int32) := own_mod3 _
  generalize h_mm : ((mo &&& (2147483647 : Int32)) % (3 : Int32)) = mm at d_mm ⊢
  show own_Go p e below _ s₁ (mkF m 6 #[.val (.int mo), .val (.int po), .val (.int cc), .val (.int ls), .val (.long ch), .second, .unset, .unset, .unset, .unset, .unset, .unset, .unset] [(.int mm)])
  refine own_st (fun t_ k_ => XS.istore X0.here hx rfl (hb hby at_6) rfl (l' := #[.val (.int mo), .val (.int po), .val (.int cc), .val (.int ls), .val (.long ch), .second, .val (.int mm), .unset, .unset, .unset, .unset, .unset, .unset]) rfl k_) ?_
  show own_Go p e below _ s₁ (mkF m 8 #[.val (.int mo), .val (.int po), .val (.int cc), .val (.int ls), .val (.long ch), .second, .val (.int mm), .unset, .unset, .unset, .unset, .unset, .unset] [])
  refine own_st (fun t_ k_ => XS.bipush X0.here hx rfl (hb hby at_8) k_) ?_
  show own_Go p e below _ s₁ (mkF m 10 #[.val (.int mo), .val (.int po), .val (.int cc), .val (.int ls), .val (.long ch), .second, .val (.int mm), .unset, .unset, .unset, .unset, .unset, .unset] [(.int (8 : Int32))])
  obtain ⟨T1, h1, k1, X1, e1, E1, A1, st1⟩ := newP X0 hx hZ (hw _ (List.mem_of_getElem? (i := 1) rfl)) e0 (g := (mkF m 10 #[.val (.int mo), .val (.int po), .val (.int cc), .val (.int ls), .val (.long ch), .second, .val (.int mm), .unset, .unset, .unset, .unset, .unset, .unset] [(.int (8 : Int32))])) rfl (hb hby at_10) rfl (by decide) (cap := 8) (by decide) (by decide) (by decide) (by decide)
  obtain ⟨nb1, g1⟩ : ∃ z, z = h0.size := ⟨_, rfl⟩
  rw [← g1] at A1 st1
  refine own_st st1 ?_
  have g_nb1 : n0 ≤ nb1 := Nat.le_trans (Nat.le_trans Z0 (Keep.refl h0 []).1) (Nat.le_of_eq g1.symm)
  have K1 : Keep h0 h1 [] := (Keep.refl h0 []).ext E1
  have sz_nb1 : h0.size ≤ nb1 := Nat.le_trans (Keep.refl h0 []).1 (Nat.le_of_eq g1.symm)
  have B1 := own_Bk.ext E1 B0
  have Sf1 := Safe.ext E1 (own_Bk.ch B0) (Safe.new (Nat.le_of_eq g1.symm))
  have V1 : Arv Z h1 nb1 k1 .char (8 : Int32) [(.int (0 : Int32)), (.int (0 : Int32)), (.int (0 : Int32)), (.int (0 : Int32)), (.int (0 : Int32)), (.int (0 : Int32)), (.int (0 : Int32)), (.int (0 : Int32))] (.int (0 : Int32)) := (Arv.new A1 (by decide)).pad (pad_rep [] (.int (0 : Int32)) 8)
  show own_Go p e below _ T1 (mkF m 12 #[.val (.int mo), .val (.int po), .val (.int cc), .val (.int ls), .val (.long ch), .second, .val (.int mm), .unset, .unset, .unset, .unset, .unset, .unset] [(.ref nb1)])
  refine own_st (fun t_ k_ => XS.astore X1.here hx rfl (hb hby at_12) rfl rfl (l' := #[.val (.int mo), .val (.int po), .val (.int cc), .val (.int ls), .val (.long ch), .second, .val (.int mm), .val (.ref nb1), .unset, .unset, .unset, .unset, .unset]) rfl k_) ?_
  show own_Go p e below _ T1 (mkF m 14 #[.val (.int mo), .val (.int po), .val (.int cc), .val (.int ls), .val (.long ch), .second, .val (.int mm), .val (.ref nb1), .unset, .unset, .unset, .unset, .unset] [])
  refine own_st (fun t_ k_ => XS.aload X1.here hx rfl (hb hby at_14) rfl rfl k_) ?_
  show own_Go p e below _ T1 (mkF m 16 #[.val (.int mo), .val (.int po), .val (.int cc), .val (.int ls), .val (.long ch), .second, .val (.int mm), .val (.ref nb1), .unset, .unset, .unset, .unset, .unset] [(.ref nb1)])
  refine own_st (fun t_ k_ => XS.iconst X1.here hx rfl (hb hby at_16) k_) ?_
  show own_Go p e below _ T1 (mkF m 17 #[.val (.int mo), .val (.int po), .val (.int cc), .val (.int ls), .val (.long ch), .second, .val (.int mm), .val (.ref nb1), .unset, .unset, .unset, .unset, .unset] [(.int (0 : Int32)), (.ref nb1)])
  refine own_st (fun t_ k_ => XS.lload X1.here hx rfl (hb hby at_17) rfl k_) ?_
  show own_Go p e below _ T1 (mkF m 19 #[.val (.int mo), .val (.int po), .val (.int cc), .val (.int ls), .val (.long ch), .second, .val (.int mm), .val (.ref nb1), .unset, .unset, .unset, .unset, .unset] [(.long ch), (.int (0 : Int32)), (.ref nb1)])
  refine own_st (fun t_ k_ => X1.ldc2J hx hown (mvT hZ (hw _ (List.mem_of_getElem? (i := 2) rfl))) rfl (hb hby at_19) k_) ?_
  show own_Go p e below _ T1 (mkF m 22 #[.val (.int mo), .val (.int po), .val (.int cc), .val (.int ls), .val (.long ch), .second, .val (.int mm), .val (.ref nb1), .unset, .unset, .unset, .unset, .unset] [(.long (255 : Int64)), (.long ch), (.int (0 : Int32)), (.ref nb1)])
  refine own_st (fun t_ k_ => XS.land X1.here hx rfl (hb hby at_22) rfl k_) ?_
  show own_Go p e below _ T1 (mkF m 23 #[.val (.int mo), .val (.int po), .val (.int cc), .val (.int ls), .val (.long ch), .second, .val (.int mm), .val (.ref nb1), .unset, .unset, .unset, .unset, .unset] [(.long (ch &&& (255 : Int64))), (.int (0 : Int32)), (.ref nb1)])
  refine own_st (fun t_ k_ => XS.l2i X1.here hx rfl (hb hby at_23) rfl k_) ?_
  show own_Go p e below _ T1 (mkF m 24 #[.val (.int mo), .val (.int po), .val (.int cc), .val (.int ls), .val (.long ch), .second, .val (.int mm), .val (.ref nb1), .unset, .unset, .unset, .unset, .unset] [(.int ((ch &&& (255 : Int64)).toInt32)), (.int (0 : Int32)), (.ref nb1)])
  refine own_st (fun t_ k_ => XS.i2c X1.here hx rfl (hb hby at_24) rfl k_) ?_
  show own_Go p e below _ T1 (mkF m 25 #[.val (.int mo), .val (.int po), .val (.int cc), .val (.int ls), .val (.long ch), .second, .val (.int mm), .val (.ref nb1), .unset, .unset, .unset, .unset, .unset] [(.int (((ch &&& (255 : Int64)).toInt32).toUInt32.toUInt16.toUInt32.toInt32)), (.int (0 : Int32)), (.ref nb1)])
  obtain ⟨cl2, Ar2, q2, S2, N2', H2, G2⟩ := id V1
  have hin2 : ¬ ((0 : Int32) < 0 ∨ cl2.slots.size ≤ ((0 : Int32)).toNatClampNeg) := inb_of S2 ⟨by decide, by decide⟩
  obtain ⟨T2, h2, X2, e2, W2, st2⟩ := stC X1 hx hZ e1 Ar2 (j := (0 : Int32)) hin2 (g := (mkF m 25 #[.val (.int mo), .val (.int po), .val (.int cc), .val (.int ls), .val (.long ch), .second, .val (.int mm), .val (.ref nb1), .unset, .unset, .unset, .unset, .unset] [(.int (((ch &&& (255 : Int64)).toInt32).toUInt32.toUInt16.toUInt32.toInt32)), (.int (0 : Int32)), (.ref nb1)])) rfl rfl (hb hby at_25)
  have V2 : Arv Z h2 nb1 k1 .char (8 : Int32) [(.int (nar .char (((ch &&& (255 : Int64)).toInt32).toUInt32.toUInt16.toUInt32.toInt32))), (.int (0 : Int32)), (.int (0 : Int32)), (.int (0 : Int32)), (.int (0 : Int32)), (.int (0 : Int32)), (.int (0 : Int32)), (.int (0 : Int32))] (.int (0 : Int32)) := Arv.set Ar2 q2 S2 N2' H2 G2 (fits_nar_char _) W2 0 rfl (Nat.le_of_ble_eq_true rfl)
  refine own_st st2 ?_
  have Sw2 := Sf1
  have B2 := own_Bk.wr W2 Sw2 B1
  have N2 := Fr.snoc X2 N0 g_nb1
  have K2 : Keep h0 h2 [] := K1.wr W2 (Or.inr sz_nb1)
  show own_Go p e below _ T2 (mkF m 26 #[.val (.int mo), .val (.int po), .val (.int cc), .val (.int ls), .val (.long ch), .second, .val (.int mm), .val (.ref nb1), .unset, .unset, .unset, .unset, .unset] [])
  refine own_st (fun t_ k_ => XS.aload X2.here hx rfl (hb hby at_26) rfl rfl k_) ?_
  show own_Go p e below _ T2 (mkF m 28 #[.val (.int mo), .val (.int po), .val (.int cc), .val (.int ls), .val (.long ch), .second, .val (.int mm), .val (.ref nb1), .unset, .unset, .unset, .unset, .unset] [(.ref nb1)])
  refine own_st (fun t_ k_ => XS.iconst X2.here hx rfl (hb hby at_28) k_) ?_
  show own_Go p e below _ T2 (mkF m 29 #[.val (.int mo), .val (.int po), .val (.int cc), .val (.int ls), .val (.long ch), .second, .val (.int mm), .val (.ref nb1), .unset, .unset, .unset, .unset, .unset] [(.int (1 : Int32)), (.ref nb1)])
  refine own_st (fun t_ k_ => XS.lload X2.here hx rfl (hb hby at_29) rfl k_) ?_
  show own_Go p e below _ T2 (mkF m 31 #[.val (.int mo), .val (.int po), .val (.int cc), .val (.int ls), .val (.long ch), .second, .val (.int mm), .val (.ref nb1), .unset, .unset, .unset, .unset, .unset] [(.long ch), (.int (1 : Int32)), (.ref nb1)])
  refine own_st (fun t_ k_ => XS.bipush X2.here hx rfl (hb hby at_31) k_) ?_
  show own_Go p e below _ T2 (mkF m 33 #[.val (.int mo), .val (.int po), .val (.int cc), .val (.int ls), .val (.long ch), .second, .val (.int mm), .val (.ref nb1), .unset, .unset, .unset, .unset, .unset] [(.int (8 : Int32)), (.long ch), (.int (1 : Int32)), (.ref nb1)])
  refine own_st (fun t_ k_ => XS.lushr X2.here hx rfl (hb hby at_33) rfl k_) ?_
  show own_Go p e below _ T2 (mkF m 34 #[.val (.int mo), .val (.int po), .val (.int cc), .val (.int ls), .val (.long ch), .second, .val (.int mm), .val (.ref nb1), .unset, .unset, .unset, .unset, .unset] [(.long ((ch.toUInt64 >>> ((8 : Int32) &&& 0x3f).toInt64.toUInt64).toInt64)), (.int (1 : Int32)), (.ref nb1)])
  refine own_st (fun t_ k_ => X2.ldc2J hx hown (mvT hZ (hw _ (List.mem_of_getElem? (i := 2) rfl))) rfl (hb hby at_34) k_) ?_
  show own_Go p e below _ T2 (mkF m 37 #[.val (.int mo), .val (.int po), .val (.int cc), .val (.int ls), .val (.long ch), .second, .val (.int mm), .val (.ref nb1), .unset, .unset, .unset, .unset, .unset] [(.long (255 : Int64)), (.long ((ch.toUInt64 >>> ((8 : Int32) &&& 0x3f).toInt64.toUInt64).toInt64)), (.int (1 : Int32)), (.ref nb1)])
  refine own_st (fun t_ k_ => XS.land X2.here hx rfl (hb hby at_37) rfl k_) ?_
  show own_Go p e below _ T2 (mkF m 38 #[.val (.int mo), .val (.int po), .val (.int cc), .val (.int ls), .val (.long ch), .second, .val (.int mm), .val (.ref nb1), .unset, .unset, .unset, .unset, .unset] [(.long (((ch.toUInt64 >>> ((8 : Int32) &&& 0x3f).toInt64.toUInt64).toInt64) &&& (255 : Int64))), (.int (1 : Int32)), (.ref nb1)])
  refine own_st (fun t_ k_ => XS.l2i X2.here hx rfl (hb hby at_38) rfl k_) ?_
  show own_Go p e below _ T2 (mkF m 39 #[.val (.int mo), .val (.int po), .val (.int cc), .val (.int ls), .val (.long ch), .second, .val (.int mm), .val (.ref nb1), .unset, .unset, .unset, .unset, .unset] [(.int ((((ch.toUInt64 >>> ((8 : Int32) &&& 0x3f).toInt64.toUInt64).toInt64) &&& (255 : Int64)).toInt32)), (.int (1 : Int32)), (.ref nb1)])
  refine own_st (fun t_ k_ => XS.i2c X2.here hx rfl (hb hby at_39) rfl k_) ?_
  show own_Go p e below _ T2 (mkF m 40 #[.val (.int mo), .val (.int po), .val (.int cc), .val (.int ls), .val (.long ch), .second, .val (.int mm), .val (.ref nb1), .unset, .unset, .unset, .unset, .unset] [(.int (((((ch.toUInt64 >>> ((8 : Int32) &&& 0x3f).toInt64.toUInt64).toInt64) &&& (255 : Int64)).toInt32).toUInt32.toUInt16.toUInt32.toInt32)), (.int (1 : Int32)), (.ref nb1)])
  obtain ⟨cl3, Ar3, q3, S3, N3', H3, G3⟩ := id V2
  have hin3 : ¬ ((1 : Int32) < 0 ∨ cl3.slots.size ≤ ((1 : Int32)).toNatClampNeg) := inb_of S3 ⟨by decide, by decide⟩
  obtain ⟨T3, h3, X3, e3, W3, st3⟩ := stC X2 hx hZ e2 Ar3 (j := (1 : Int32)) hin3 (g := (mkF m 40 #[.val (.int mo), .val (.int po), .val (.int cc), .val (.int ls), .val (.long ch), .second, .val (.int mm), .val (.ref nb1), .unset, .unset, .unset, .unset, .unset] [(.int (((((ch.toUInt64 >>> ((8 : Int32) &&& 0x3f).toInt64.toUInt64).toInt64) &&& (255 : Int64)).toInt32).toUInt32.toUInt16.toUInt32.toInt32)), (.int (1 : Int32)), (.ref nb1)])) rfl rfl (hb hby at_40)
  have V3 : Arv Z h3 nb1 k1 .char (8 : Int32) [(.int (nar .char (((ch &&& (255 : Int64)).toInt32).toUInt32.toUInt16.toUInt32.toInt32))), (.int (nar .char (((((ch.toUInt64 >>> ((8 : Int32) &&& 0x3f).toInt64.toUInt64).toInt64) &&& (255 : Int64)).toInt32).toUInt32.toUInt16.toUInt32.toInt32))), (.int (0 : Int32)), (.int (0 : Int32)), (.int (0 : Int32)), (.int (0 : Int32)), (.int (0 : Int32)), (.int (0 : Int32))] (.int (0 : Int32)) := Arv.set Ar3 q3 S3 N3' H3 G3 (fits_nar_char _) W3 1 rfl (Nat.le_of_ble_eq_true rfl)
  refine own_st st3 ?_
  have f4 := (Safe.wr W2 Sw2 (own_Bk.ch B1) Sf1)
  have Sw3 := f4
  have B3 := own_Bk.wr W3 Sw3 B2
  have N3 := Fr.snoc X3 N2 g_nb1
  have K3 : Keep h0 h3 [] := K2.wr W3 (Or.inr sz_nb1)
  show own_Go p e below _ T3 (mkF m 41 #[.val (.int mo), .val (.int po), .val (.int cc), .val (.int ls), .val (.long ch), .second, .val (.int mm), .val (.ref nb1), .unset, .unset, .unset, .unset, .unset] [])
  refine own_st (fun t_ k_ => XS.aload X3.here hx rfl (hb hby at_41) rfl rfl k_) ?_
  show own_Go p e below _ T3 (mkF m 43 #[.val (.int mo), .val (.int po), .val (.int cc), .val (.int ls), .val (.long ch), .second, .val (.int mm), .val (.ref nb1), .unset, .unset, .unset, .unset, .unset] [(.ref nb1)])
  refine own_st (fun t_ k_ => XS.iconst X3.here hx rfl (hb hby at_43) k_) ?_
  show own_Go p e below _ T3 (mkF m 44 #[.val (.int mo), .val (.int po), .val (.int cc), .val (.int ls), .val (.long ch), .second, .val (.int mm), .val (.ref nb1), .unset, .unset, .unset, .unset, .unset] [(.int (2 : Int32)), (.ref nb1)])
  refine own_st (fun t_ k_ => XS.lload X3.here hx rfl (hb hby at_44) rfl k_) ?_
  show own_Go p e below _ T3 (mkF m 46 #[.val (.int mo), .val (.int po), .val (.int cc), .val (.int ls), .val (.long ch), .second, .val (.int mm), .val (.ref nb1), .unset, .unset, .unset, .unset, .unset] [(.long ch), (.int (2 : Int32)), (.ref nb1)])
  refine own_st (fun t_ k_ => XS.bipush X3.here hx rfl (hb hby at_46) k_) ?_
  show own_Go p e below _ T3 (mkF m 48 #[.val (.int mo), .val (.int po), .val (.int cc), .val (.int ls), .val (.long ch), .second, .val (.int mm), .val (.ref nb1), .unset, .unset, .unset, .unset, .unset] [(.int (16 : Int32)), (.long ch), (.int (2 : Int32)), (.ref nb1)])
  refine own_st (fun t_ k_ => XS.lushr X3.here hx rfl (hb hby at_48) rfl k_) ?_
  show own_Go p e below _ T3 (mkF m 49 #[.val (.int mo), .val (.int po), .val (.int cc), .val (.int ls), .val (.long ch), .second, .val (.int mm), .val (.ref nb1), .unset, .unset, .unset, .unset, .unset] [(.long ((ch.toUInt64 >>> ((16 : Int32) &&& 0x3f).toInt64.toUInt64).toInt64)), (.int (2 : Int32)), (.ref nb1)])
  refine own_st (fun t_ k_ => X3.ldc2J hx hown (mvT hZ (hw _ (List.mem_of_getElem? (i := 2) rfl))) rfl (hb hby at_49) k_) ?_
  show own_Go p e below _ T3 (mkF m 52 #[.val (.int mo), .val (.int po), .val (.int cc), .val (.int ls), .val (.long ch), .second, .val (.int mm), .val (.ref nb1), .unset, .unset, .unset, .unset, .unset] [(.long (255 : Int64)), (.long ((ch.toUInt64 >>> ((16 : Int32) &&& 0x3f).toInt64.toUInt64).toInt64)), (.int (2 : Int32)), (.ref nb1)])
  refine own_st (fun t_ k_ => XS.land X3.here hx rfl (hb hby at_52) rfl k_) ?_
  show own_Go p e below _ T3 (mkF m 53 #[.val (.int mo), .val (.int po), .val (.int cc), .val (.int ls), .val (.long ch), .second, .val (.int mm), .val (.ref nb1), .unset, .unset, .unset, .unset, .unset] [(.long (((ch.toUInt64 >>> ((16 : Int32) &&& 0x3f).toInt64.toUInt64).toInt64) &&& (255 : Int64))), (.int (2 : Int32)), (.ref nb1)])
  refine own_st (fun t_ k_ => XS.l2i X3.here hx rfl (hb hby at_53) rfl k_) ?_
  show own_Go p e below _ T3 (mkF m 54 #[.val (.int mo), .val (.int po), .val (.int cc), .val (.int ls), .val (.long ch), .second, .val (.int mm), .val (.ref nb1), .unset, .unset, .unset, .unset, .unset] [(.int ((((ch.toUInt64 >>> ((16 : Int32) &&& 0x3f).toInt64.toUInt64).toInt64) &&& (255 : Int64)).toInt32)), (.int (2 : Int32)), (.ref nb1)])
  refine own_st (fun t_ k_ => XS.i2c X3.here hx rfl (hb hby at_54) rfl k_) ?_
  show own_Go p e below _ T3 (mkF m 55 #[.val (.int mo), .val (.int po), .val (.int cc), .val (.int ls), .val (.long ch), .second, .val (.int mm), .val (.ref nb1), .unset, .unset, .unset, .unset, .unset] [(.int (((((ch.toUInt64 >>> ((16 : Int32) &&& 0x3f).toInt64.toUInt64).toInt64) &&& (255 : Int64)).toInt32).toUInt32.toUInt16.toUInt32.toInt32)), (.int (2 : Int32)), (.ref nb1)])
  obtain ⟨cl5, Ar5, q5, S5, N5', H5, G5⟩ := id V3
  have hin5 : ¬ ((2 : Int32) < 0 ∨ cl5.slots.size ≤ ((2 : Int32)).toNatClampNeg) := inb_of S5 ⟨by decide, by decide⟩
  obtain ⟨T5, h5, X5, e5, W5, st5⟩ := stC X3 hx hZ e3 Ar5 (j := (2 : Int32)) hin5 (g := (mkF m 55 #[.val (.int mo), .val (.int po), .val (.int cc), .val (.int ls), .val (.long ch), .second, .val (.int mm), .val (.ref nb1), .unset, .unset, .unset, .unset, .unset] [(.int (((((ch.toUInt64 >>> ((16 : Int32) &&& 0x3f).toInt64.toUInt64).toInt64) &&& (255 : Int64)).toInt32).toUInt32.toUInt16.toUInt32.toInt32)), (.int (2 : Int32)), (.ref nb1)])) rfl rfl (hb hby at_55)
  have V5 : Arv Z h5 nb1 k1 .char (8 : Int32) [(.int (nar .char (((ch &&& (255 : Int64)).toInt32).toUInt32.toUInt16.toUInt32.toInt32))), (.int (nar .char (((((ch.toUInt64 >>> ((8 : Int32) &&& 0x3f).toInt64.toUInt64).toInt64) &&& (255 : Int64)).toInt32).toUInt32.toUInt16.toUInt32.toInt32))), (.int (nar .char (((((ch.toUInt64 >>> ((16 : Int32) &&& 0x3f).toInt64.toUInt64).toInt64) &&& (255 : Int64)).toInt32).toUInt32.toUInt16.toUInt32.toInt32))), (.int (0 : Int32)), (.int (0 : Int32)), (.int (0 : Int32)), (.int (0 : Int32)), (.int (0 : Int32))] (.int (0 : Int32)) := Arv.set Ar5 q5 S5 N5' H5 G5 (fits_nar_char _) W5 2 rfl (Nat.le_of_ble_eq_true rfl)
  refine own_st st5 ?_
  have f6 := (Safe.wr W3 Sw3 (own_Bk.ch B2) f4)
  have Sw5 := f6
  have B5 := own_Bk.wr W5 Sw5 B3
  have N5 := Fr.snoc X5 N3 g_nb1
  have K5 : Keep h0 h5 [] := K3.wr W5 (Or.inr sz_nb1)
  show own_Go p e below _ T5 (mkF m 56 #[.val (.int mo), .val (.int po), .val (.int cc), .val (.int ls), .val (.long ch), .second, .val (.int mm), .val (.ref nb1), .unset, .unset, .unset, .unset, .unset] [])
  refine own_st (fun t_ k_ => XS.aload X5.here hx rfl (hb hby at_56) rfl rfl k_) ?_
  show own_Go p e below _ T5 (mkF m 58 #[.val (.int mo), .val (.int po), .val (.int cc), .val (.int ls), .val (.long ch), .second, .val (.int mm), .val (.ref nb1), .unset, .unset, .unset, .unset, .unset] [(.ref nb1)])
  refine own_st (fun t_ k_ => XS.iconst X5.here hx rfl (hb hby at_58) k_) ?_
  show own_Go p e below _ T5 (mkF m 59 #[.val (.int mo), .val (.int po), .val (.int cc), .val (.int ls), .val (.long ch), .second, .val (.int mm), .val (.ref nb1), .unset, .unset, .unset, .unset, .unset] [(.int (3 : Int32)), (.ref nb1)])
  refine own_st (fun t_ k_ => XS.lload X5.here hx rfl (hb hby at_59) rfl k_) ?_
  show own_Go p e below _ T5 (mkF m 61 #[.val (.int mo), .val (.int po), .val (.int cc), .val (.int ls), .val (.long ch), .second, .val (.int mm), .val (.ref nb1), .unset, .unset, .unset, .unset, .unset] [(.long ch), (.int (3 : Int32)), (.ref nb1)])
  refine own_st (fun t_ k_ => XS.bipush X5.here hx rfl (hb hby at_61) k_) ?_
  show own_Go p e below _ T5 (mkF m 63 #[.val (.int mo), .val (.int po), .val (.int cc), .val (.int ls), .val (.long ch), .second, .val (.int mm), .val (.ref nb1), .unset, .unset, .unset, .unset, .unset] [(.int (24 : Int32)), (.long ch), (.int (3 : Int32)), (.ref nb1)])
  refine own_st (fun t_ k_ => XS.lushr X5.here hx rfl (hb hby at_63) rfl k_) ?_
  show own_Go p e below _ T5 (mkF m 64 #[.val (.int mo), .val (.int po), .val (.int cc), .val (.int ls), .val (.long ch), .second, .val (.int mm), .val (.ref nb1), .unset, .unset, .unset, .unset, .unset] [(.long ((ch.toUInt64 >>> ((24 : Int32) &&& 0x3f).toInt64.toUInt64).toInt64)), (.int (3 : Int32)), (.ref nb1)])
  refine own_st (fun t_ k_ => X5.ldc2J hx hown (mvT hZ (hw _ (List.mem_of_getElem? (i := 2) rfl))) rfl (hb hby at_64) k_) ?_
  show own_Go p e below _ T5 (mkF m 67 #[.val (.int mo), .val (.int po), .val (.int cc), .val (.int ls), .val (.long ch), .second, .val (.int mm), .val (.ref nb1), .unset, .unset, .unset, .unset, .unset] [(.long (255 : Int64)), (.long ((ch.toUInt64 >>> ((24 : Int32) &&& 0x3f).toInt64.toUInt64).toInt64)), (.int (3 : Int32)), (.ref nb1)])
  refine own_st (fun t_ k_ => XS.land X5.here hx rfl (hb hby at_67) rfl k_) ?_
  show own_Go p e below _ T5 (mkF m 68 #[.val (.int mo), .val (.int po), .val (.int cc), .val (.int ls), .val (.long ch), .second, .val (.int mm), .val (.ref nb1), .unset, .unset, .unset, .unset, .unset] [(.long (((ch.toUInt64 >>> ((24 : Int32) &&& 0x3f).toInt64.toUInt64).toInt64) &&& (255 : Int64))), (.int (3 : Int32)), (.ref nb1)])
  refine own_st (fun t_ k_ => XS.l2i X5.here hx rfl (hb hby at_68) rfl k_) ?_
  show own_Go p e below _ T5 (mkF m 69 #[.val (.int mo), .val (.int po), .val (.int cc), .val (.int ls), .val (.long ch), .second, .val (.int mm), .val (.ref nb1), .unset, .unset, .unset, .unset, .unset] [(.int ((((ch.toUInt64 >>> ((24 : Int32) &&& 0x3f).toInt64.toUInt64).toInt64) &&& (255 : Int64)).toInt32)), (.int (3 : Int32)), (.ref nb1)])
  refine own_st (fun t_ k_ => XS.i2c X5.here hx rfl (hb hby at_69) rfl k_) ?_
  show own_Go p e below _ T5 (mkF m 70 #[.val (.int mo), .val (.int po), .val (.int cc), .val (.int ls), .val (.long ch), .second, .val (.int mm), .val (.ref nb1), .unset, .unset, .unset, .unset, .unset] [(.int (((((ch.toUInt64 >>> ((24 : Int32) &&& 0x3f).toInt64.toUInt64).toInt64) &&& (255 : Int64)).toInt32).toUInt32.toUInt16.toUInt32.toInt32)), (.int (3 : Int32)), (.ref nb1)])
  obtain ⟨cl7, Ar7, q7, S7, N7', H7, G7⟩ := id V5
  have hin7 : ¬ ((3 : Int32) < 0 ∨ cl7.slots.size ≤ ((3 : Int32)).toNatClampNeg) := inb_of S7 ⟨by decide, by decide⟩
  obtain ⟨T7, h7, X7, e7, W7, st7⟩ := stC X5 hx hZ e5 Ar7 (j := (3 : Int32)) hin7 (g := (mkF m 70 #[.val (.int mo), .val (.int po), .val (.int cc), .val (.int ls), .val (.long ch), .second, .val (.int mm), .val (.ref nb1), .unset, .unset, .unset, .unset, .unset] [(.int (((((ch.toUInt64 >>> ((24 : Int32) &&& 0x3f).toInt64.toUInt64).toInt64) &&& (255 : Int64)).toInt32).toUInt32.toUInt16.toUInt32.toInt32)), (.int (3 : Int32)), (.ref nb1)])) rfl rfl (hb hby at_70)
  have V7 : Arv Z h7 nb1 k1 .char (8 : Int32) [(.int (nar .char (((ch &&& (255 : Int64)).toInt32).toUInt32.toUInt16.toUInt32.toInt32))), (.int (nar .char (((((ch.toUInt64 >>> ((8 : Int32) &&& 0x3f).toInt64.toUInt64).toInt64) &&& (255 : Int64)).toInt32).toUInt32.toUInt16.toUInt32.toInt32))), (.int (nar .char (((((ch.toUInt64 >>> ((16 : Int32) &&& 0x3f).toInt64.toUInt64).toInt64) &&& (255 : Int64)).toInt32).toUInt32.toUInt16.toUInt32.toInt32))), (.int (nar .char (((((ch.toUInt64 >>> ((24 : Int32) &&& 0x3f).toInt64.toUInt64).toInt64) &&& (255 : Int64)).toInt32).toUInt32.toUInt16.toUInt32.toInt32))), (.int (0 : Int32)), (.int (0 : Int32)), (.int (0 : Int32)), (.int (0 : Int32))] (.int (0 : Int32)) := Arv.set Ar7 q7 S7 N7' H7 G7 (fits_nar_char _) W7 3 rfl (Nat.le_of_ble_eq_true rfl)
  refine own_st st7 ?_
  have f8 := (Safe.wr W5 Sw5 (own_Bk.ch B3) f6)
  have Sw7 := f8
  have B7 := own_Bk.wr W7 Sw7 B5
  have N7 := Fr.snoc X7 N5 g_nb1
  have K7 : Keep h0 h7 [] := K5.wr W7 (Or.inr sz_nb1)
  show own_Go p e below _ T7 (mkF m 71 #[.val (.int mo), .val (.int po), .val (.int cc), .val (.int ls), .val (.long ch), .second, .val (.int mm), .val (.ref nb1), .unset, .unset, .unset, .unset, .unset] [])
  refine own_st (fun t_ k_ => XS.aload X7.here hx rfl (hb hby at_71) rfl rfl k_) ?_
  show own_Go p e below _ T7 (mkF m 73 #[.val (.int mo), .val (.int po), .val (.int cc), .val (.int ls), .val (.long ch), .second, .val (.int mm), .val (.ref nb1), .unset, .unset, .unset, .unset, .unset] [(.ref nb1)])
  refine own_st (fun t_ k_ => XS.iconst X7.here hx rfl (hb hby at_73) k_) ?_
  show own_Go p e below _ T7 (mkF m 74 #[.val (.int mo), .val (.int po), .val (.int cc), .val (.int ls), .val (.long ch), .second, .val (.int mm), .val (.ref nb1), .unset, .unset, .unset, .unset, .unset] [(.int (4 : Int32)), (.ref nb1)])
  refine own_st (fun t_ k_ => XS.lload X7.here hx rfl (hb hby at_74) rfl k_) ?_
  show own_Go p e below _ T7 (mkF m 76 #[.val (.int mo), .val (.int po), .val (.int cc), .val (.int ls), .val (.long ch), .second, .val (.int mm), .val (.ref nb1), .unset, .unset, .unset, .unset, .unset] [(.long ch), (.int (4 : Int32)), (.ref nb1)])
  refine own_st (fun t_ k_ => XS.bipush X7.here hx rfl (hb hby at_76) k_) ?_
  show own_Go p e below _ T7 (mkF m 78 #[.val (.int mo), .val (.int po), .val (.int cc), .val (.int ls), .val (.long ch), .second, .val (.int mm), .val (.ref nb1), .unset, .unset, .unset, .unset, .unset] [(.int (32 : Int32)), (.long ch), (.int (4 : Int32)), (.ref nb1)])
  refine own_st (fun t_ k_ => XS.lushr X7.here hx rfl (hb hby at_78) rfl k_) ?_
  show own_Go p e below _ T7 (mkF m 79 #[.val (.int mo), .val (.int po), .val (.int cc), .val (.int ls), .val (.long ch), .second, .val (.int mm), .val (.ref nb1), .unset, .unset, .unset, .unset, .unset] [(.long ((ch.toUInt64 >>> ((32 : Int32) &&& 0x3f).toInt64.toUInt64).toInt64)), (.int (4 : Int32)), (.ref nb1)])
  refine own_st (fun t_ k_ => X7.ldc2J hx hown (mvT hZ (hw _ (List.mem_of_getElem? (i := 2) rfl))) rfl (hb hby at_79) k_) ?_
  show own_Go p e below _ T7 (mkF m 82 #[.val (.int mo), .val (.int po), .val (.int cc), .val (.int ls), .val (.long ch), .second, .val (.int mm), .val (.ref nb1), .unset, .unset, .unset, .unset, .unset] [(.long (255 : Int64)), (.long ((ch.toUInt64 >>> ((32 : Int32) &&& 0x3f).toInt64.toUInt64).toInt64)), (.int (4 : Int32)), (.ref nb1)])
  refine own_st (fun t_ k_ => XS.land X7.here hx rfl (hb hby at_82) rfl k_) ?_
  show own_Go p e below _ T7 (mkF m 83 #[.val (.int mo), .val (.int po), .val (.int cc), .val (.int ls), .val (.long ch), .second, .val (.int mm), .val (.ref nb1), .unset, .unset, .unset, .unset, .unset] [(.long (((ch.toUInt64 >>> ((32 : Int32) &&& 0x3f).toInt64.toUInt64).toInt64) &&& (255 : Int64))), (.int (4 : Int32)), (.ref nb1)])
  refine own_st (fun t_ k_ => XS.l2i X7.here hx rfl (hb hby at_83) rfl k_) ?_
  show own_Go p e below _ T7 (mkF m 84 #[.val (.int mo), .val (.int po), .val (.int cc), .val (.int ls), .val (.long ch), .second, .val (.int mm), .val (.ref nb1), .unset, .unset, .unset, .unset, .unset] [(.int ((((ch.toUInt64 >>> ((32 : Int32) &&& 0x3f).toInt64.toUInt64).toInt64) &&& (255 : Int64)).toInt32)), (.int (4 : Int32)), (.ref nb1)])
  refine own_st (fun t_ k_ => XS.i2c X7.here hx rfl (hb hby at_84) rfl k_) ?_
  show own_Go p e below _ T7 (mkF m 85 #[.val (.int mo), .val (.int po), .val (.int cc), .val (.int ls), .val (.long ch), .second, .val (.int mm), .val (.ref nb1), .unset, .unset, .unset, .unset, .unset] [(.int (((((ch.toUInt64 >>> ((32 : Int32) &&& 0x3f).toInt64.toUInt64).toInt64) &&& (255 : Int64)).toInt32).toUInt32.toUInt16.toUInt32.toInt32)), (.int (4 : Int32)), (.ref nb1)])
  obtain ⟨cl9, Ar9, q9, S9, N9', H9, G9⟩ := id V7
  have hin9 : ¬ ((4 : Int32) < 0 ∨ cl9.slots.size ≤ ((4 : Int32)).toNatClampNeg) := inb_of S9 ⟨by decide, by decide⟩
  obtain ⟨T9, h9, X9, e9, W9, st9⟩ := stC X7 hx hZ e7 Ar9 (j := (4 : Int32)) hin9 (g := (mkF m 85 #[.val (.int mo), .val (.int po), .val (.int cc), .val (.int ls), .val (.long ch), .second, .val (.int mm), .val (.ref nb1), .unset, .unset, .unset, .unset, .unset] [(.int (((((ch.toUInt64 >>> ((32 : Int32) &&& 0x3f).toInt64.toUInt64).toInt64) &&& (255 : Int64)).toInt32).toUInt32.toUInt16.toUInt32.toInt32)), (.int (4 : Int32)), (.ref nb1)])) rfl rfl (hb hby at_85)
  have V9 : Arv Z h9 nb1 k1 .char (8 : Int32) [(.int (nar .char (((ch &&& (255 : Int64)).toInt32).toUInt32.toUInt16.toUInt32.toInt32))), (.int (nar .char (((((ch.toUInt64 >>> ((8 : Int32) &&& 0x3f).toInt64.toUInt64).toInt64) &&& (255 : Int64)).toInt32).toUInt32.toUInt16.toUInt32.toInt32))), (.int (nar .char (((((ch.toUInt64 >>> ((16 : Int32) &&& 0x3f).toInt64.toUInt64).toInt64) &&& (255 : Int64)).toInt32).toUInt32.toUInt16.toUInt32.toInt32))), (.int (nar .char (((((ch.toUInt64 >>> ((24 : Int32) &&& 0x3f).toInt64.toUInt64).toInt64) &&& (255 : Int64)).toInt32).toUInt32.toUInt16.toUInt32.toInt32))), (.int (nar .char (((((ch.toUInt64 >>> ((32 : Int32) &&& 0x3f).toInt64.toUInt64).toInt64) &&& (255 : Int64)).toInt32).toUInt32.toUInt16.toUInt32.toInt32))), (.int (0 : Int32)), (.int (0 : Int32)), (.int (0 : Int32))] (.int (0 : Int32)) := Arv.set Ar9 q9 S9 N9' H9 G9 (fits_nar_char _) W9 4 rfl (Nat.le_of_ble_eq_true rfl)
  refine own_st st9 ?_
  have f10 := (Safe.wr W7 Sw7 (own_Bk.ch B5) f8)
  have Sw9 := f10
  have B9 := own_Bk.wr W9 Sw9 B7
  have N9 := Fr.snoc X9 N7 g_nb1
  have K9 : Keep h0 h9 [] := K7.wr W9 (Or.inr sz_nb1)
  show own_Go p e below _ T9 (mkF m 86 #[.val (.int mo), .val (.int po), .val (.int cc), .val (.int ls), .val (.long ch), .second, .val (.int mm), .val (.ref nb1), .unset, .unset, .unset, .unset, .unset] [])
  refine own_st (fun t_ k_ => XS.aload X9.here hx rfl (hb hby at_86) rfl rfl k_) ?_
  show own_Go p e below _ T9 (mkF m 88 #[.val (.int mo), .val (.int po), .val (.int cc), .val (.int ls), .val (.long ch), .second, .val (.int mm), .val (.ref nb1), .unset, .unset, .unset, .unset, .unset] [(.ref nb1)])
  refine own_st (fun t_ k_ => XS.iconst X9.here hx rfl (hb hby at_88) k_) ?_
  show own_Go p e below _ T9 (mkF m 89 #[.val (.int mo), .val (.int po), .val (.int cc), .val (.int ls), .val (.long ch), .second, .val (.int mm), .val (.ref nb1), .unset, .unset, .unset, .unset, .unset] [(.int (5 : Int32)), (.ref nb1)])
  refine own_st (fun t_ k_ => XS.lload X9.here hx rfl (hb hby at_89) rfl k_) ?_
  show own_Go p e below _ T9 (mkF m 91 #[.val (.int mo), .val (.int po), .val (.int cc), .val (.int ls), .val (.long ch), .second, .val (.int mm), .val (.ref nb1), .unset, .unset, .unset, .unset, .unset] [(.long ch), (.int (5 : Int32)), (.ref nb1)])
  refine own_st (fun t_ k_ => XS.bipush X9.here hx rfl (hb hby at_91) k_) ?_
  show own_Go p e below _ T9 (mkF m 93 #[.val (.int mo), .val (.int po), .val (.int cc), .val (.int ls), .val (.long ch), .second, .val (.int mm), .val (.ref nb1), .unset, .unset, .unset, .unset, .unset] [(.int (40 : Int32)), (.long ch), (.int (5 : Int32)), (.ref nb1)])
  refine own_st (fun t_ k_ => XS.lushr X9.here hx rfl (hb hby at_93) rfl k_) ?_
  show own_Go p e below _ T9 (mkF m 94 #[.val (.int mo), .val (.int po), .val (.int cc), .val (.int ls), .val (.long ch), .second, .val (.int mm), .val (.ref nb1), .unset, .unset, .unset, .unset, .unset] [(.long ((ch.toUInt64 >>> ((40 : Int32) &&& 0x3f).toInt64.toUInt64).toInt64)), (.int (5 : Int32)), (.ref nb1)])
  refine own_st (fun t_ k_ => X9.ldc2J hx hown (mvT hZ (hw _ (List.mem_of_getElem? (i := 2) rfl))) rfl (hb hby at_94) k_) ?_
  show own_Go p e below _ T9 (mkF m 97 #[.val (.int mo), .val (.int po), .val (.int cc), .val (.int ls), .val (.long ch), .second, .val (.int mm), .val (.ref nb1), .unset, .unset, .unset, .unset, .unset] [(.long (255 : Int64)), (.long ((ch.toUInt64 >>> ((40 : Int32) &&& 0x3f).toInt64.toUInt64).toInt64)), (.int (5 : Int32)), (.ref nb1)])
  refine own_st (fun t_ k_ => XS.land X9.here hx rfl (hb hby at_97) rfl k_) ?_
  show own_Go p e below _ T9 (mkF m 98 #[.val (.int mo), .val (.int po), .val (.int cc), .val (.int ls), .val (.long ch), .second, .val (.int mm), .val (.ref nb1), .unset, .unset, .unset, .unset, .unset] [(.long (((ch.toUInt64 >>> ((40 : Int32) &&& 0x3f).toInt64.toUInt64).toInt64) &&& (255 : Int64))), (.int (5 : Int32)), (.ref nb1)])
  refine own_st (fun t_ k_ => XS.l2i X9.here hx rfl (hb hby at_98) rfl k_) ?_
  show own_Go p e below _ T9 (mkF m 99 #[.val (.int mo), .val (.int po), .val (.int cc), .val (.int ls), .val (.long ch), .second, .val (.int mm), .val (.ref nb1), .unset, .unset, .unset, .unset, .unset] [(.int ((((ch.toUInt64 >>> ((40 : Int32) &&& 0x3f).toInt64.toUInt64).toInt64) &&& (255 : Int64)).toInt32)), (.int (5 : Int32)), (.ref nb1)])
  refine own_st (fun t_ k_ => XS.i2c X9.here hx rfl (hb hby at_99) rfl k_) ?_
  show own_Go p e below _ T9 (mkF m 100 #[.val (.int mo), .val (.int po), .val (.int cc), .val (.int ls), .val (.long ch), .second, .val (.int mm), .val (.ref nb1), .unset, .unset, .unset, .unset, .unset] [(.int (((((ch.toUInt64 >>> ((40 : Int32) &&& 0x3f).toInt64.toUInt64).toInt64) &&& (255 : Int64)).toInt32).toUInt32.toUInt16.toUInt32.toInt32)), (.int (5 : Int32)), (.ref nb1)])
  obtain ⟨cl11, Ar11, q11, S11, N11', H11, G11⟩ := id V9
  have hin11 : ¬ ((5 : Int32) < 0 ∨ cl11.slots.size ≤ ((5 : Int32)).toNatClampNeg) := inb_of S11 ⟨by decide, by decide⟩
  obtain ⟨T11, h11, X11, e11, W11, st11⟩ := stC X9 hx hZ e9 Ar11 (j := (5 : Int32)) hin11 (g := (mkF m 100 #[.val (.int mo), .val (.int po), .val (.int cc), .val (.int ls), .val (.long ch), .second, .val (.int mm), .val (.ref nb1), .unset, .unset, .unset, .unset, .unset] [(.int (((((ch.toUInt64 >>> ((40 : Int32) &&& 0x3f).toInt64.toUInt64).toInt64) &&& (255 : Int64)).toInt32).toUInt32.toUInt16.toUInt32.toInt32)), (.int (5 : Int32)), (.ref nb1)])) rfl rfl (hb hby at_100)
  have V11 : Arv Z h11 nb1 k1 .char (8 : Int32) [(.int (nar .char (((ch &&& (255 : Int64)).toInt32).toUInt32.toUInt16.toUInt32.toInt32))), (.int (nar .char (((((ch.toUInt64 >>> ((8 : Int32) &&& 0x3f).toInt64.toUInt64).toInt64) &&& (255 : Int64)).toInt32).toUInt32.toUInt16.toUInt32.toInt32))), (.int (nar .char (((((ch.toUInt64 >>> ((16 : Int32) &&& 0x3f).toInt64.toUInt64).toInt64) &&& (255 : Int64)).toInt32).toUInt32.toUInt16.toUInt32.toInt32))), (.int (nar .char (((((ch.toUInt64 >>> ((24 : Int32) &&& 0x3f).toInt64.toUInt64).toInt64) &&& (255 : Int64)).toInt32).toUInt32.toUInt16.toUInt32.toInt32))), (.int (nar .char (((((ch.toUInt64 >>> ((32 : Int32) &&& 0x3f).toInt64.toUInt64).toInt64) &&& (255 : Int64)).toInt32).toUInt32.toUInt16.toUInt32.toInt32))), (.int (nar .char (((((ch.toUInt64 >>> ((40 : Int32) &&& 0x3f).toInt64.toUInt64).toInt64) &&& (255 : Int64)).toInt32).toUInt32.toUInt16.toUInt32.toInt32))), (.int (0 : Int32)), (.int (0 : Int32))] (.int (0 : Int32)) := Arv.set Ar11 q11 S11 N11' H11 G11 (fits_nar_char _) W11 5 rfl (Nat.le_of_ble_eq_true rfl)
  refine own_st st11 ?_
  have f12 := (Safe.wr W9 Sw9 (own_Bk.ch B7) f10)
  have Sw11 := f12
  have B11 := own_Bk.wr W11 Sw11 B9
  have N11 := Fr.snoc X11 N9 g_nb1
  have K11 : Keep h0 h11 [] := K9.wr W11 (Or.inr sz_nb1)
  show own_Go p e below _ T11 (mkF m 101 #[.val (.int mo), .val (.int po), .val (.int cc), .val (.int ls), .val (.long ch), .second, .val (.int mm), .val (.ref nb1), .unset, .unset, .unset, .unset, .unset] [])
  refine own_st (fun t_ k_ => XS.aload X11.here hx rfl (hb hby at_101) rfl rfl k_) ?_
  show own_Go p e below _ T11 (mkF m 103 #[.val (.int mo), .val (.int po), .val (.int cc), .val (.int ls), .val (.long ch), .second, .val (.int mm), .val (.ref nb1), .unset, .unset, .unset, .unset, .unset] [(.ref nb1)])
  refine own_st (fun t_ k_ => XS.bipush X11.here hx rfl (hb hby at_103) k_) ?_
  show own_Go p e below _ T11 (mkF m 105 #[.val (.int mo), .val (.int po), .val (.int cc), .val (.int ls), .val (.long ch), .second, .val (.int mm), .val (.ref nb1), .unset, .unset, .unset, .unset, .unset] [(.int (6 : Int32)), (.ref nb1)])
  refine own_st (fun t_ k_ => XS.lload X11.here hx rfl (hb hby at_105) rfl k_) ?_
  show own_Go p e below _ T11 (mkF m 107 #[.val (.int mo), .val (.int po), .val (.int cc), .val (.int ls), .val (.long ch), .second, .val (.int mm), .val (.ref nb1), .unset, .unset, .unset, .unset, .unset] [(.long ch), (.int (6 : Int32)), (.ref nb1)])
  refine own_st (fun t_ k_ => XS.bipush X11.here hx rfl (hb hby at_107) k_) ?_
  show own_Go p e below _ T11 (mkF m 109 #[.val (.int mo), .val (.int po), .val (.int cc), .val (.int ls), .val (.long ch), .second, .val (.int mm), .val (.ref nb1), .unset, .unset, .unset, .unset, .unset] [(.int (48 : Int32)), (.long ch), (.int (6 : Int32)), (.ref nb1)])
  refine own_st (fun t_ k_ => XS.lushr X11.here hx rfl (hb hby at_109) rfl k_) ?_
  show own_Go p e below _ T11 (mkF m 110 #[.val (.int mo), .val (.int po), .val (.int cc), .val (.int ls), .val (.long ch), .second, .val (.int mm), .val (.ref nb1), .unset, .unset, .unset, .unset, .unset] [(.long ((ch.toUInt64 >>> ((48 : Int32) &&& 0x3f).toInt64.toUInt64).toInt64)), (.int (6 : Int32)), (.ref nb1)])
  refine own_st (fun t_ k_ => X11.ldc2J hx hown (mvT hZ (hw _ (List.mem_of_getElem? (i := 2) rfl))) rfl (hb hby at_110) k_) ?_
  show own_Go p e below _ T11 (mkF m 113 #[.val (.int mo), .val (.int po), .val (.int cc), .val (.int ls), .val (.long ch), .second, .val (.int mm), .val (.ref nb1), .unset, .unset, .unset, .unset, .unset] [(.long (255 : Int64)), (.long ((ch.toUInt64 >>> ((48 : Int32) &&& 0x3f).toInt64.toUInt64).toInt64)), (.int (6 : Int32)), (.ref nb1)])
  refine own_st (fun t_ k_ => XS.land X11.here hx rfl (hb hby at_113) rfl k_) ?_
  show own_Go p e below _ T11 (mkF m 114 #[.val (.int mo), .val (.int po), .val (.int cc), .val (.int ls), .val (.long ch), .second, .val (.int mm), .val (.ref nb1), .unset, .unset, .unset, .unset, .unset] [(.long (((ch.toUInt64 >>> ((48 : Int32) &&& 0x3f).toInt64.toUInt64).toInt64) &&& (255 : Int64))), (.int (6 : Int32)), (.ref nb1)])
  refine own_st (fun t_ k_ => XS.l2i X11.here hx rfl (hb hby at_114) rfl k_) ?_
  show own_Go p e below _ T11 (mkF m 115 #[.val (.int mo), .val (.int po), .val (.int cc), .val (.int ls), .val (.long ch), .second, .val (.int mm), .val (.ref nb1), .unset, .unset, .unset, .unset, .unset] [(.int ((((ch.toUInt64 >>> ((48 : Int32) &&& 0x3f).toInt64.toUInt64).toInt64) &&& (255 : Int64)).toInt32)), (.int (6 : Int32)), (.ref nb1)])
  refine own_st (fun t_ k_ => XS.i2c X11.here hx rfl (hb hby at_115) rfl k_) ?_
  show own_Go p e below _ T11 (mkF m 116 #[.val (.int mo), .val (.int po), .val (.int cc), .val (.int ls), .val (.long ch), .second, .val (.int mm), .val (.ref nb1), .unset, .unset, .unset, .unset, .unset] [(.int (((((ch.toUInt64 >>> ((48 : Int32) &&& 0x3f).toInt64.toUInt64).toInt64) &&& (255 : Int64)).toInt32).toUInt32.toUInt16.toUInt32.toInt32)), (.int (6 : Int32)), (.ref nb1)])
  obtain ⟨cl13, Ar13, q13, S13, N13', H13, G13⟩ := id V11
  have hin13 : ¬ ((6 : Int32) < 0 ∨ cl13.slots.size ≤ ((6 : Int32)).toNatClampNeg) := inb_of S13 ⟨by decide, by decide⟩
  obtain ⟨T13, h13, X13, e13, W13, st13⟩ := stC X11 hx hZ e11 Ar13 (j := (6 : Int32)) hin13 (g := (mkF m 116 #[.val (.int mo), .val (.int po), .val (.int cc), .val (.int ls), .val (.long ch), .second, .val (.int mm), .val (.ref nb1), .unset, .unset, .unset, .unset, .unset] [(.int (((((ch.toUInt64 >>> ((48 : Int32) &&& 0x3f).toInt64.toUInt64).toInt64) &&& (255 : Int64)).toInt32).toUInt32.toUInt16.toUInt32.toInt32)), (.int (6 : Int32)), (.ref nb1)])) rfl rfl (hb hby at_116)
  have V13 : Arv Z h13 nb1 k1 .char (8 : Int32) [(.int (nar .char (((ch &&& (255 : Int64)).toInt32).toUInt32.toUInt16.toUInt32.toInt32))), (.int (nar .char (((((ch.toUInt64 >>> ((8 : Int32) &&& 0x3f).toInt64.toUInt64).toInt64) &&& (255 : Int64)).toInt32).toUInt32.toUInt16.toUInt32.toInt32))), (.int (nar .char (((((ch.toUInt64 >>> ((16 : Int32) &&& 0x3f).toInt64.toUInt64).toInt64) &&& (255 : Int64)).toInt32).toUInt32.toUInt16.toUInt32.toInt32))), (.int (nar .char (((((ch.toUInt64 >>> ((24 : Int32) &&& 0x3f).toInt64.toUInt64).toInt64) &&& (255 : Int64)).toInt32).toUInt32.toUInt16.toUInt32.toInt32))), (.int (nar .char (((((ch.toUInt64 >>> ((32 : Int32) &&& 0x3f).toInt64.toUInt64).toInt64) &&& (255 : Int64)).toInt32).toUInt32.toUInt16.toUInt32.toInt32))), (.int (nar .char (((((ch.toUInt64 >>> ((40 : Int32) &&& 0x3f).toInt64.toUInt64).toInt64) &&& (255 : Int64)).toInt32).toUInt32.toUInt16.toUInt32.toInt32))), (.int (nar .char (((((ch.toUInt64 >>> ((48 : Int32) &&& 0x3f).toInt64.toUInt64).toInt64) &&& (255 : Int64)).toInt32).toUInt32.toUInt16.toUInt32.toInt32))), (.int (0 : Int32))] (.int (0 : Int32)) := Arv.set Ar13 q13 S13 N13' H13 G13 (fits_nar_char _) W13 6 rfl (Nat.le_of_ble_eq_true rfl)
  refine own_st st13 ?_
  have f14 := (Safe.wr W11 Sw11 (own_Bk.ch B9) f12)
  have Sw13 := f14
  have B13 := own_Bk.wr W13 Sw13 B11
  have N13 := Fr.snoc X13 N11 g_nb1
  have K13 : Keep h0 h13 [] := K11.wr W13 (Or.inr sz_nb1)
  show own_Go p e below _ T13 (mkF m 117 #[.val (.int mo), .val (.int po), .val (.int cc), .val (.int ls), .val (.long ch), .second, .val (.int mm), .val (.ref nb1), .unset, .unset, .unset, .unset, .unset] [])
  refine own_st (fun t_ k_ => XS.aload X13.here hx rfl (hb hby at_117) rfl rfl k_) ?_
  show own_Go p e below _ T13 (mkF m 119 #[.val (.int mo), .val (.int po), .val (.int cc), .val (.int ls), .val (.long ch), .second, .val (.int mm), .val (.ref nb1), .unset, .unset, .unset, .unset, .unset] [(.ref nb1)])
  refine own_st (fun t_ k_ => XS.bipush X13.here hx rfl (hb hby at_119) k_) ?_
  show own_Go p e below _ T13 (mkF m 121 #[.val (.int mo), .val (.int po), .val (.int cc), .val (.int ls), .val (.long ch), .second, .val (.int mm), .val (.ref nb1), .unset, .unset, .unset, .unset, .unset] [(.int (7 : Int32)), (.ref nb1)])
  refine own_st (fun t_ k_ => XS.lload X13.here hx rfl (hb hby at_121) rfl k_) ?_
  show own_Go p e below _ T13 (mkF m 123 #[.val (.int mo), .val (.int po), .val (.int cc), .val (.int ls), .val (.long ch), .second, .val (.int mm), .val (.ref nb1), .unset, .unset, .unset, .unset, .unset] [(.long ch), (.int (7 : Int32)), (.ref nb1)])
  refine own_st (fun t_ k_ => XS.bipush X13.here hx rfl (hb hby at_123) k_) ?_
  show own_Go p e below _ T13 (mkF m 125 #[.val (.int mo), .val (.int po), .val (.int cc), .val (.int ls), .val (.long ch), .second, .val (.int mm), .val (.ref nb1), .unset, .unset, .unset, .unset, .unset] [(.int (56 : Int32)), (.long ch), (.int (7 : Int32)), (.ref nb1)])
  refine own_st (fun t_ k_ => XS.lushr X13.here hx rfl (hb hby at_125) rfl k_) ?_
  show own_Go p e below _ T13 (mkF m 126 #[.val (.int mo), .val (.int po), .val (.int cc), .val (.int ls), .val (.long ch), .second, .val (.int mm), .val (.ref nb1), .unset, .unset, .unset, .unset, .unset] [(.long ((ch.toUInt64 >>> ((56 : Int32) &&& 0x3f).toInt64.toUInt64).toInt64)), (.int (7 : Int32)), (.ref nb1)])
  refine own_st (fun t_ k_ => X13.ldc2J hx hown (mvT hZ (hw _ (List.mem_of_getElem? (i := 2) rfl))) rfl (hb hby at_126) k_) ?_
  show own_Go p e below _ T13 (mkF m 129 #[.val (.int mo), .val (.int po), .val (.int cc), .val (.int ls), .val (.long ch), .second, .val (.int mm), .val (.ref nb1), .unset, .unset, .unset, .unset, .unset] [(.long (255 : Int64)), (.long ((ch.toUInt64 >>> ((56 : Int32) &&& 0x3f).toInt64.toUInt64).toInt64)), (.int (7 : Int32)), (.ref nb1)])
  refine own_st (fun t_ k_ => XS.land X13.here hx rfl (hb hby at_129) rfl k_) ?_
  show own_Go p e below _ T13 (mkF m 130 #[.val (.int mo), .val (.int po), .val (.int cc), .val (.int ls), .val (.long ch), .second, .val (.int mm), .val (.ref nb1), .unset, .unset, .unset, .unset, .unset] [(.long (((ch.toUInt64 >>> ((56 : Int32) &&& 0x3f).toInt64.toUInt64).toInt64) &&& (255 : Int64))), (.int (7 : Int32)), (.ref nb1)])
  refine own_st (fun t_ k_ => XS.l2i X13.here hx rfl (hb hby at_130) rfl k_) ?_
  show own_Go p e below _ T13 (mkF m 131 #[.val (.int mo), .val (.int po), .val (.int cc), .val (.int ls), .val (.long ch), .second, .val (.int mm), .val (.ref nb1), .unset, .unset, .unset, .unset, .unset] [(.int ((((ch.toUInt64 >>> ((56 : Int32) &&& 0x3f).toInt64.toUInt64).toInt64) &&& (255 : Int64)).toInt32)), (.int (7 : Int32)), (.ref nb1)])
  refine own_st (fun t_ k_ => XS.i2c X13.here hx rfl (hb hby at_131) rfl k_) ?_
  show own_Go p e below _ T13 (mkF m 132 #[.val (.int mo), .val (.int po), .val (.int cc), .val (.int ls), .val (.long ch), .second, .val (.int mm), .val (.ref nb1), .unset, .unset, .unset, .unset, .unset] [(.int (((((ch.toUInt64 >>> ((56 : Int32) &&& 0x3f).toInt64.toUInt64).toInt64) &&& (255 : Int64)).toInt32).toUInt32.toUInt16.toUInt32.toInt32)), (.int (7 : Int32)), (.ref nb1)])
  obtain ⟨cl15, Ar15, q15, S15, N15', H15, G15⟩ := id V13
  have hin15 : ¬ ((7 : Int32) < 0 ∨ cl15.slots.size ≤ ((7 : Int32)).toNatClampNeg) := inb_of S15 ⟨by decide, by decide⟩
  obtain ⟨T15, h15, X15, e15, W15, st15⟩ := stC X13 hx hZ e13 Ar15 (j := (7 : Int32)) hin15 (g := (mkF m 132 #[.val (.int mo), .val (.int po), .val (.int cc), .val (.int ls), .val (.long ch), .second, .val (.int mm), .val (.ref nb1), .unset, .unset, .unset, .unset, .unset] [(.int (((((ch.toUInt64 >>> ((56 : Int32) &&& 0x3f).toInt64.toUInt64).toInt64) &&& (255 : Int64)).toInt32).toUInt32.toUInt16.toUInt32.toInt32)), (.int (7 : Int32)), (.ref nb1)])) rfl rfl (hb hby at_132)
  have V15 : Arv Z h15 nb1 k1 .char (8 : Int32) [(.int (nar .char (((ch &&& (255 : Int64)).toInt32).toUInt32.toUInt16.toUInt32.toInt32))), (.int (nar .char (((((ch.toUInt64 >>> ((8 : Int32) &&& 0x3f).toInt64.toUInt64).toInt64) &&& (255 : Int64)).toInt32).toUInt32.toUInt16.toUInt32.toInt32))), (.int (nar .char (((((ch.toUInt64 >>> ((16 : Int32) &&& 0x3f).toInt64.toUInt64).toInt64) &&& (255 : Int64)).toInt32).toUInt32.toUInt16.toUInt32.toInt32))), (.int (nar .char (((((ch.toUInt64 >>> ((24 : Int32) &&& 0x3f).toInt64.toUInt64).toInt64) &&& (255 : Int64)).toInt32).toUInt32.toUInt16.toUInt32.toInt32))), (.int (nar .char (((((ch.toUInt64 >>> ((32 : Int32) &&& 0x3f).toInt64.toUInt64).toInt64) &&& (255 : Int64)).toInt32).toUInt32.toUInt16.toUInt32.toInt32))), (.int (nar .char (((((ch.toUInt64 >>> ((40 : Int32) &&& 0x3f).toInt64.toUInt64).toInt64) &&& (255 : Int64)).toInt32).toUInt32.toUInt16.toUInt32.toInt32))), (.int (nar .char (((((ch.toUInt64 >>> ((48 : Int32) &&& 0x3f).toInt64.toUInt64).toInt64) &&& (255 : Int64)).toInt32).toUInt32.toUInt16.toUInt32.toInt32))), (.int (nar .char (((((ch.toUInt64 >>> ((56 : Int32) &&& 0x3f).toInt64.toUInt64).toInt64) &&& (255 : Int64)).toInt32).toUInt32.toUInt16.toUInt32.toInt32)))] (.int (0 : Int32)) := Arv.set Ar15 q15 S15 N15' H15 G15 (fits_nar_char _) W15 7 rfl (Nat.le_of_ble_eq_true rfl)
  refine own_st st15 ?_
  have f16 := (Safe.wr W13 Sw13 (own_Bk.ch B11) f14)
  have Sw15 := f16
  have B15 := own_Bk.wr W15 Sw15 B13
  have N15 := Fr.snoc X15 N13 g_nb1
  have K15 : Keep h0 h15 [] := K13.wr W15 (Or.inr sz_nb1)
  show own_Go p e below _ T15 (mkF m 133 #[.val (.int mo), .val (.int po), .val (.int cc), .val (.int ls), .val (.long ch), .second, .val (.int mm), .val (.ref nb1), .unset, .unset, .unset, .unset, .unset] [])
  refine own_cut (J := ∀ (x0 x1 x2 x3 x4 x5 x6 x7 : Int32) (nn : Int32) (T' : State) (h' : Heap) (locs' : List Loc), Stand p l e room_1 (s.setVm s.vm) m #[(.int mo), (.int po), (.int cc), (.int ls), (.long ch)] below meth c T' locs' 1 8 → T'.heap = h' → Fr n0 locs' → Keep h0 h' [] → own_Bk Z consts_1 s h0 s.vm h' → Arv Z h' nb1 k1 .char (8 : Int32) [(.int x0), (.int x1), (.int x2), (.int x3), (.int x4), (.int x5), (.int x6), (.int x7)] (.int (0 : Int32)) → own_L8 x0 x1 x2 x3 x4 x5 x6 x7 → own_N9 nn → own_Go p e below (own_EndS Z consts_1 s (Q0 n0) 24 1152) T' (mkF m 235 #[.val (.int mo), .val (.int po), .val (.int cc), .val (.int ls), .val (.long ch), .second, .val (.int mm), .val (.ref nb1), .val (.int nn), .unset, .unset, .unset, .unset] [])) ?_ ?_
  · intro x0 x1 x2 x3 x4 x5 x6 x7 nn Tja hja Lja Xja eja Nja Kja Bja Vja hL8 h9j
    obtain ⟨hL0, hL1, hL2, hL3, hL4, hL5, hL6, hL7⟩ := hL8
    show own_Go p e below _ Tja (mkF m 235 #[.val (.int mo), .val (.int po), .val (.int cc), .val (.int ls), .val (.long ch), .second, .val (.int mm), .val (.ref nb1), .val (.int nn), .unset, .unset, .unset, .unset] [])
    refine own_cut (J := ∀ (x0 x1 x2 x3 x4 x5 x6 x7 : Int32) (nn : Int32) (T' : State) (h' : Heap) (locs' : List Loc), Stand p l e room_1 (s.setVm s.vm) m #[(.int mo), (.int po), (.int cc), (.int ls), (.long ch)] below meth c T' locs' 1 8 → T'.heap = h' → Fr n0 locs' → Keep h0 h' [] → own_Bk Z consts_1 s h0 s.vm h' → Arv Z h' nb1 k1 .char (8 : Int32) [(.int x0), (.int x1), (.int x2), (.int x3), (.int x4), (.int x5), (.int x6), (.int x7)] (.int (0 : Int32)) → own_L8 x0 x1 x2 x3 x4 x5 x6 x7 → own_N9 nn → own_Go p e below (own_EndS Z consts_1 s (Q0 n0) 24 1152) T' (mkF m 273 #[.val (.int mo), .val (.int po), .val (.int cc), .val (.int ls), .val (.long ch), .second, .val (.int mm), .val (.ref nb1), .val (.int nn), .unset, .unset, .unset, .unset] [])) ?_ ?_
    · intro x0 x1 x2 x3 x4 x5 x6 x7 nn Tjb hjb Ljb Xjb ejb Njb Kjb Bjb Vjb hL8 h9j
      obtain ⟨hL0, hL1, hL2, hL3, hL4, hL5, hL6, hL7⟩ := hL8
      show own_Go p e below _ Tjb (mkF m 273 #[.val (.int mo), .val (.int po), .val (.int cc), .val (.int ls), .val (.long ch), .second, .val (.int mm), .val (.ref nb1), .val (.int nn), .unset, .unset, .unset, .unset] [])
      refine own_st (fun t_ k_ => XS.iload Xjb.here hx rfl (hb hby at_273) rfl k_) ?_
      show own_Go p e below _ Tjb (mkF m 275 #[.val (.int mo), .val (.int po), .val (.int cc), .val (.int ls), .val (.long ch), .second, .val (.int mm), .val (.ref nb1), .val (.int nn), .unset, .unset, .unset, .unset] [(.int nn)])
      refine own_st (fun t_ k_ => XS.aload Xjb.here hx rfl (hb hby at_275) rfl rfl k_) ?_
      show own_Go p e below _ Tjb (mkF m 277 #[.val (.int mo), .val (.int po), .val (.int cc), .val (.int ls), .val (.long ch), .second, .val (.int mm), .val (.ref nb1), .val (.int nn), .unset, .unset, .unset, .unset] [(.ref nb1), (.int nn)])
      have f60 := (O0.keep Kjb all0)
      refine own_callSS Xjb hx (y := (⟨"com/example/gentle_nudge/gentlenudge/server/AccountKindFromWireNamePinLaw", "str", "(I[C)Ljava/lang/String;"⟩ : MethodName)) hown (mvT hZ (hw _ (List.mem_of_getElem? (i := 3) rfl))) (mvT hZ (hw _ (List.mem_of_getElem? (i := 4) rfl))) (mvT hZ (hw _ (List.mem_of_getElem? (i := 5) rfl))) (mvT hZ (hw _ (List.mem_of_getElem? (i := 6) rfl))) (by decide) (backOfSH (W := 0) (rmST l Z a0 hw [] nn nb1 k1 x0 x1 x2 x3 x4 x5 x6 x7 G hjb n0 (Nat.le_trans Z0 Kjb.1) SC hCS f60 h9j Vjb hL0 hL1 hL2 hL3 hL4 hL5 hL6 hL7) hZ (hw _ (List.mem_of_getElem? (i := 6) rfl)) (hw _ (List.mem_of_getElem? (i := 5) rfl)) (by decide) (by decide) hEL (own_Bk.ch Bjb)) (g := (mkF m 277 #[.val (.int mo), .val (.int po), .val (.int cc), .val (.int ls), .val (.long ch), .second, .val (.int mm), .val (.ref nb1), .val (.int nn), .unset, .unset, .unset, .unset] [(.ref nb1), (.int nn)])) rfl (by rw [hml]; rfl) (argsL := [(.int nn), (.ref nb1)]) (rest := []) (lenOf pd_9 rfl) rfl (by show 2 * 0 + _ ≤ _; exact Nat.le_of_eq rfl) (hb hby at_277) rfl ejb (by decide) (by decide) hZ Bjb ?_
      rintro v61 T61 L61 X61 ⟨x61, t61, kb61, rfl, Nq61, Kq61, gx61, g_x61, nt61, Ex61, Cq61, Vq61, Aq61, hp61⟩ CH61 B61 hZ hown
      have hZ : Z.Warmed39 (s.setVm T61.vm).vm := hZ
      have hown : (s.setVm T61.vm).vm.findClass "com/example/gentle_nudge/gentlenudge/server/AccountKindFromWireNamePinLaw" = some m.cls := hown
      have N61 := Fr.app Njb Nq61
      have K61 : Keep h0 T61.heap [] := Kjb.trans Kq61 all0
      have sz_x61 : h0.size ≤ x61 := Nat.le_trans Kjb.1 gx61
      show own_Go p e below _ T61 (mkF m 280 #[.val (.int mo), .val (.int po), .val (.int cc), .val (.int ls), .val (.long ch), .second, .val (.int mm), .val (.ref nb1), .val (.int nn), .unset, .unset, .unset, .unset] [(.ref x61)])
      refine own_st (fun t_ k_ => XS.astore X61.here hx rfl (hb hby at_280) rfl rfl (l' := #[.val (.int mo), .val (.int po), .val (.int cc), .val (.int ls), .val (.long ch), .second, .val (.int mm), .val (.ref nb1), .val (.int nn), .val (.ref x61), .unset, .unset, .unset]) rfl k_) ?_
      show own_Go p e below _ T61 (mkF m 282 #[.val (.int mo), .val (.int po), .val (.int cc), .val (.int ls), .val (.long ch), .second, .val (.int mm), .val (.ref nb1), .val (.int nn), .val (.ref x61), .unset, .unset, .unset] [])
      refine own_st (fun t_ k_ => XS.iload X61.here hx rfl (hb hby at_282) rfl k_) ?_
      show own_Go p e below _ T61 (mkF m 284 #[.val (.int mo), .val (.int po), .val (.int cc), .val (.int ls), .val (.long ch), .second, .val (.int mm), .val (.ref nb1), .val (.int nn), .val (.ref x61), .unset, .unset, .unset] [(.int nn)])
      refine own_st (fun t_ k_ => XS.iconst X61.here hx rfl (hb hby at_284) k_) ?_
      show own_Go p e below _ T61 (mkF m 285 #[.val (.int mo), .val (.int po), .val (.int cc), .val (.int ls), .val (.long ch), .second, .val (.int mm), .val (.ref nb1), .val (.int nn), .val (.ref x61), .unset, .unset, .unset] [(.int (4 : Int32)), (.int nn)])
      refine own_join (α := Int32) (F := fun bu => (bu = (1 : Int32) ∧ own_str nn [x0, x1, x2, x3, x4, x5, x6, x7] = ([117, 115, 101, 114] : List Int32)) ∨ (bu = (0 : Int32) ∧ ¬ own_str nn [x0, x1, x2, x3, x4, x5, x6, x7] = ([117, 115, 101, 114] : List Int32))) (T' := T61) (g' := fun bu => (mkF m 329 #[.val (.int mo), .val (.int po), .val (.int cc), .val (.int ls), .val (.long ch), .second, .val (.int mm), .val (.ref nb1), .val (.int nn), .val (.ref x61), .unset, .unset, .unset] [(.int bu)])) (fun bu h_bu => ?_) (fun J_bu => ?_)
      · show own_Go p e below _ T61 (mkF m 329 #[.val (.int mo), .val (.int po), .val (.int cc), .val (.int ls), .val (.long ch), .second, .val (.int mm), .val (.ref nb1), .val (.int nn), .val (.ref x61), .unset, .unset, .unset] [(.int bu)])
        refine own_st (fun t_ k_ => XS.istore X61.here hx rfl (hb hby at_329) rfl (l' := #[.val (.int mo), .val (.int po), .val (.int cc), .val (.int ls), .val (.long ch), .second, .val (.int mm), .val (.ref nb1), .val (.int nn), .val (.ref x61), .val (.int bu), .unset, .unset]) rfl k_) ?_
        show own_Go p e below _ T61 (mkF m 331 #[.val (.int mo), .val (.int po), .val (.int cc), .val (.int ls), .val (.long ch), .second, .val (.int mm), .val (.ref nb1), .val (.int nn), .val (.ref x61), .val (.int bu), .unset, .unset] [])
        refine own_st (fun t_ k_ => XS.iload X61.here hx rfl (hb hby at_331) rfl k_) ?_
        show own_Go p e below _ T61 (mkF m 333 #[.val (.int mo), .val (.int po), .val (.int cc), .val (.int ls), .val (.long ch), .second, .val (.int mm), .val (.ref nb1), .val (.int nn), .val (.ref x61), .val (.int bu), .unset, .unset] [(.int nn)])
        refine own_st (fun t_ k_ => XS.bipush X61.here hx rfl (hb hby at_333) k_) ?_
        show own_Go p e below _ T61 (mkF m 335 #[.val (.int mo), .val (.int po), .val (.int cc), .val (.int ls), .val (.long ch), .second, .val (.int mm), .val (.ref nb1), .val (.int nn), .val (.ref x61), .val (.int bu), .unset, .unset] [(.int (7 : Int32)), (.int nn)])
        refine own_join (α := Int32) (F := fun bs => (bs = (1 : Int32) ∧ own_str nn [x0, x1, x2, x3, x4, x5, x6, x7] = ([115, 101, 114, 118, 105, 99, 101] : List Int32)) ∨ (bs = (0 : Int32) ∧ ¬ own_str nn [x0, x1, x2, x3, x4, x5, x6, x7] = ([115, 101, 114, 118, 105, 99, 101] : List Int32))) (T' := T61) (g' := fun bs => (mkF m 407 #[.val (.int mo), .val (.int po), .val (.int cc), .val (.int ls), .val (.long ch), .second, .val (.int mm), .val (.ref nb1), .val (.int nn), .val (.ref x61), .val (.int bu), .unset, .unset] [(.int bs)])) (fun bs h_bs => ?_) (fun J_bs => ?_)
        · show own_Go p e below _ T61 (mkF m 407 #[.val (.int mo), .val (.int po), .val (.int cc), .val (.int ls), .val (.long ch), .second, .val (.int mm), .val (.ref nb1), .val (.int nn), .val (.ref x61), .val (.int bu), .unset, .unset] [(.int bs)])
          refine own_st (fun t_ k_ => XS.istore X61.here hx rfl (hb hby at_407) rfl (l' := #[.val (.int mo), .val (.int po), .val (.int cc), .val (.int ls), .val (.long ch), .second, .val (.int mm), .val (.ref nb1), .val (.int nn), .val (.ref x61), .val (.int bu), .val (.int bs), .unset]) rfl k_) ?_
          show own_Go p e below _ T61 (mkF m 409 #[.val (.int mo), .val (.int po), .val (.int cc), .val (.int ls), .val (.long ch), .second, .val (.int mm), .val (.ref nb1), .val (.int nn), .val (.ref x61), .val (.int bu), .val (.int bs), .unset] [])
          refine own_st (fun t_ k_ => XS.aload X61.here hx rfl (hb hby at_409) rfl rfl k_) ?_
          show own_Go p e below _ T61 (mkF m 411 #[.val (.int mo), .val (.int po), .val (.int cc), .val (.int ls), .val (.long ch), .second, .val (.int mm), .val (.ref nb1), .val (.int nn), .val (.ref x61), .val (.int bu), .val (.int bs), .unset] [(.ref x61)])
          rcases h_bu with ⟨rfl, hU⟩ | ⟨rfl, hU⟩
          · show own_Go p e below _ T61 (mkF m 411 #[.val (.int mo), .val (.int po), .val (.int cc), .val (.int ls), .val (.long ch), .second, .val (.int mm), .val (.ref nb1), .val (.int nn), .val (.ref x61), .val (.int (1 : Int32)), .val (.int bs), .unset] [(.ref x61)])
            have f88 := (Av.keep Kjb nin0)
            have f89 := (f88.keep Kq61 nin0)
            have f90 := (Ev.keep Kjb)
            have f91 := (f90.keep Kq61)
            have f92 := (Eu0.keep Kjb)
            have f93 := (f92.keep Kq61)
            have f94 := (Eu1.keep Kjb)
            have f95 := (f94.keep Kq61)
            have f96 := (Fn0.keep Kjb nin0)
            have f97 := (f96.keep Kq61 nin0)
            have f98 := (Fn1.keep Kjb nin0)
            have f99 := (f98.keep Kq61 nin0)
            have f100 := (EpA.keep Kjb)
            have f101 := (f100.keep Kq61)
            have f102 := (CpA.keep Kjb nin0)
            have f103 := (f102.keep Kq61 nin0)
            have f104 := (VpA.keep Kjb nin0)
            have f105 := (f104.keep Kq61 nin0)
            have f106 := (ApA.keep Kjb nin0)
            have f107 := (f106.keep Kq61 nin0)
            have f108 := (EpB.keep Kjb)
            have f109 := (f108.keep Kq61)
            have f110 := (CpB.keep Kjb nin0)
            have f111 := (f110.keep Kq61 nin0)
            have f112 := (VpB.keep Kjb nin0)
            have f113 := (f112.keep Kq61 nin0)
            have f114 := (ApB.keep Kjb nin0)
            have f115 := (f114.keep Kq61 nin0)
            have f116 := (Em.keep Kjb)
            have f117 := (f116.keep Kq61)
            have f118 := (Fm.keep Kjb nin0)
            have f119 := (f118.keep Kq61 nin0)
            have f120 := (f60.keep Kq61 all0)
            refine own_callS X61 hx (y := (⟨"com/example/gentle_nudge/gentlenudge/server/AccountKind", "fromWireName", "(Ljava/lang/String;)Ljava/util/Optional;"⟩ : MethodName)) hown (mvT hZ (hw _ (List.mem_of_getElem? (i := 36) rfl))) (mvT hZ (hw _ (List.mem_of_getElem? (i := 37) rfl))) (mvT hZ (hw _ (List.mem_of_getElem? (i := 38) rfl))) (mvT hZ (hw _ (List.mem_of_getElem? (i := 39) rfl))) (by decide) (backOf (W := 0) (rmFW l Z a0 hw [] x61 t61 kb61 (own_str nn [x0, x1, x2, x3, x4, x5, x6, x7]) (.ref u0) G sv u0 u1 m0 vq0 m1 vq1 em ks kbA kbB T61.heap n0 (Nat.le_trans Z0 K61.1) SV f89 f91 f93 f95 f97 f99 f101 f103 f105 f107 hppA l2pA f109 f111 f113 f115 hppB l2pB SE f117 f119 Ex61 Cq61 Vq61 Aq61 hp61 (own_strl nn x0 x1 x2 x3 x4 x5 x6 x7) SC hCS f120 (by rw [own_kind, if_pos hU])) hZ (hw _ (List.mem_of_getElem? (i := 39) rfl)) (hw _ (List.mem_of_getElem? (i := 38) rfl)) (by decide) (by decide)) (g := (mkF m 411 #[.val (.int mo), .val (.int po), .val (.int cc), .val (.int ls), .val (.long ch), .second, .val (.int mm), .val (.ref nb1), .val (.int nn), .val (.ref x61), .val (.int (1 : Int32)), .val (.int bs), .unset] [(.ref x61)])) rfl (by rw [hml]; rfl) (argsL := [(.ref x61)]) (rest := []) (lenOf pd_10 rfl) rfl (by show 2 * 0 + _ ≤ _; exact Nat.le_of_eq rfl) (hb hby at_411) rfl rfl (by decide) (by decide) ?_
            rintro v121 T121 L121 X121 ⟨o121, rfl, Nq121, Kq121, Eo121, Fo121⟩
            have N121 := Fr.app N61 Nq121
            have K121 : Keep h0 T121.heap [] := K61.trans Kq121 all0
            have B121 := own_Bk.keep Kq121 sf0 B61
            show own_Go p e below _ T121 (mkF m 414 #[.val (.int mo), .val (.int po), .val (.int cc), .val (.int ls), .val (.long ch), .second, .val (.int mm), .val (.ref nb1), .val (.int nn), .val (.ref x61), .val (.int (1 : Int32)), .val (.int bs), .unset] [(.ref o121)])
            refine own_st (fun t_ k_ => XS.astore X121.here hx rfl (hb hby at_414) rfl rfl (l' := #[.val (.int mo), .val (.int po), .val (.int cc), .val (.int ls), .val (.long ch), .second, .val (.int mm), .val (.ref nb1), .val (.int nn), .val (.ref x61), .val (.int (1 : Int32)), .val (.int bs), .val (.ref o121)]) rfl k_) ?_
            show own_Go p e below _ T121 (mkF m 416 #[.val (.int mo), .val (.int po), .val (.int cc), .val (.int ls), .val (.long ch), .second, .val (.int mm), .val (.ref nb1), .val (.int nn), .val (.ref x61), .val (.int (1 : Int32)), .val (.int bs), .val (.ref o121)] [])
            refine own_st (fun t_ k_ => XS.iload X121.here hx rfl (hb hby at_416) rfl k_) ?_
            show own_Go p e below _ T121 (mkF m 418 #[.val (.int mo), .val (.int po), .val (.int cc), .val (.int ls), .val (.long ch), .second, .val (.int mm), .val (.ref nb1), .val (.int nn), .val (.ref x61), .val (.int (1 : Int32)), .val (.int bs), .val (.ref o121)] [(.int (1 : Int32))])
            refine own_st (fun t_ k_ => XS.ifNo X121.here hx rfl (hb hby at_418) rfl (by decide) k_) ?_
            show own_Go p e below _ T121 (mkF m 421 #[.val (.int mo), .val (.int po), .val (.int cc), .val (.int ls), .val (.long ch), .second, .val (.int mm), .val (.ref nb1), .val (.int nn), .val (.ref x61), .val (.int (1 : Int32)), .val (.int bs), .val (.ref o121)] [])
            refine own_st (fun t_ k_ => XS.aload X121.here hx rfl (hb hby at_421) rfl rfl k_) ?_
            show own_Go p e below _ T121 (mkF m 423 #[.val (.int mo), .val (.int po), .val (.int cc), .val (.int ls), .val (.long ch), .second, .val (.int mm), .val (.ref nb1), .val (.int nn), .val (.ref x61), .val (.int (1 : Int32)), .val (.int bs), .val (.ref o121)] [(.ref o121)])
            obtain ⟨cq123, kq123, q123a, q123b, q123c⟩ := isOf hZ rfl Eo121
            refine own_callV X121 hx (y := (⟨"java/util/Optional", "isPresent", "()Z"⟩ : MethodName)) (z := (⟨"java/util/Optional", "isPresent", "()Z"⟩ : MethodName)) hown (mvT hZ (hw _ (List.mem_of_getElem? (i := 86) rfl))) (mvT hZ (hw _ (List.mem_of_getElem? (i := 87) rfl))) (notFace_of_selects (args := #[]) (mvT hZ (hw _ (List.mem_of_getElem? (i := 89) rfl)))) (mvT hZ (hw _ (List.mem_of_getElem? (i := 89) rfl))) (mvT hZ (hw _ (List.mem_of_getElem? (i := 88) rfl))) (by decide) (backOf (W := 0) (rmIPR l Z a0 hw [] o121 u0 T121.heap n0 (Nat.le_trans Z0 K121.1) Fo121) hZ (hw _ (List.mem_of_getElem? (i := 90) rfl)) (hw _ (List.mem_of_getElem? (i := 71) rfl)) (by decide) (by decide)) q123a q123c (g := (mkF m 423 #[.val (.int mo), .val (.int po), .val (.int cc), .val (.int ls), .val (.long ch), .second, .val (.int mm), .val (.ref nb1), .val (.int nn), .val (.ref x61), .val (.int (1 : Int32)), .val (.int bs), .val (.ref o121)] [(.ref o121)])) rfl (by rw [hml]; rfl) (argsL := []) (rest := []) (lenOf pd_11 rfl) rfl (by show 2 * 0 + _ ≤ _; exact Nat.le_of_eq rfl) (hb hby at_423) rfl rfl (by decide) (by decide) ?_
            rintro v122 T122 L122 X122 ⟨rfl, Nq122, hh122⟩
            have N122 := Fr.app N121 Nq122
            show own_Go p e below _ T122 (mkF m 426 #[.val (.int mo), .val (.int po), .val (.int cc), .val (.int ls), .val (.long ch), .second, .val (.int mm), .val (.ref nb1), .val (.int nn), .val (.ref x61), .val (.int (1 : Int32)), .val (.int bs), .val (.ref o121)] [(.int (1 : Int32))])
            refine own_st (fun t_ k_ => XS.ifNo X122.here hx rfl (hb hby at_426) rfl (by decide) k_) ?_
            show own_Go p e below _ T122 (mkF m 429 #[.val (.int mo), .val (.int po), .val (.int cc), .val (.int ls), .val (.long ch), .second, .val (.int mm), .val (.ref nb1), .val (.int nn), .val (.ref x61), .val (.int (1 : Int32)), .val (.int bs), .val (.ref o121)] [])
            refine own_st (fun t_ k_ => XS.aload X122.here hx rfl (hb hby at_429) rfl rfl k_) ?_
            show own_Go p e below _ T122 (mkF m 431 #[.val (.int mo), .val (.int po), .val (.int cc), .val (.int ls), .val (.long ch), .second, .val (.int mm), .val (.ref nb1), .val (.int nn), .val (.ref x61), .val (.int (1 : Int32)), .val (.int bs), .val (.ref o121)] [(.ref o121)])
            obtain ⟨cq125, kq125, q125a, q125b, q125c⟩ := isOf hZ hh122 Eo121
            refine own_callV X122 hx (y := (⟨"java/util/Optional", "get", "()Ljava/lang/Object;"⟩ : MethodName)) (z := (⟨"java/util/Optional", "get", "()Ljava/lang/Object;"⟩ : MethodName)) hown (mvT hZ (hw _ (List.mem_of_getElem? (i := 91) rfl))) (mvT hZ (hw _ (List.mem_of_getElem? (i := 92) rfl))) (notFace_of_selects (args := #[]) (mvT hZ (hw _ (List.mem_of_getElem? (i := 94) rfl)))) (mvT hZ (hw _ (List.mem_of_getElem? (i := 94) rfl))) (mvT hZ (hw _ (List.mem_of_getElem? (i := 93) rfl))) (by decide) (backOf (W := 0) (rmGE l Z a0 hw [] o121 u0 T121.heap n0 (Nat.le_trans Z0 K121.1) Fo121) hZ (hw _ (List.mem_of_getElem? (i := 95) rfl)) (hw _ (List.mem_of_getElem? (i := 71) rfl)) (by decide) (by decide)) q125a q125c (g := (mkF m 431 #[.val (.int mo), .val (.int po), .val (.int cc), .val (.int ls), .val (.long ch), .second, .val (.int mm), .val (.ref nb1), .val (.int nn), .val (.ref x61), .val (.int (1 : Int32)), .val (.int bs), .val (.ref o121)] [(.ref o121)])) rfl (by rw [hml]; rfl) (argsL := []) (rest := []) (lenOf pd_12 rfl) rfl (by show 2 * 0 + _ ≤ _; exact Nat.le_of_eq rfl) (hb hby at_431) rfl hh122 (by decide) (by decide) ?_
            rintro v124 T124 L124 X124 ⟨rfl, Nq124, hh124⟩
            have N124 := Fr.app N122 Nq124
            show own_Go p e below _ T124 (mkF m 434 #[.val (.int mo), .val (.int po), .val (.int cc), .val (.int ls), .val (.long ch), .second, .val (.int mm), .val (.ref nb1), .val (.int nn), .val (.ref x61), .val (.int (1 : Int32)), .val (.int bs), .val (.ref o121)] [(.ref u0)])
            have f126 := (f120.keep Kq121 all0)
            obtain ⟨T127, X127, e127, st127⟩ := getS2 X124 hx hZ hown (host := "") (Or.inl (hw _ (List.mem_of_getElem? (i := 96) rfl))) Via.refl hh124 (Sta.ext f126.2 S0) (g := (mkF m 434 #[.val (.int mo), .val (.int po), .val (.int cc), .val (.int ls), .val (.long ch), .second, .val (.int mm), .val (.ref nb1), .val (.int nn), .val (.ref x61), .val (.int (1 : Int32)), .val (.int bs), .val (.ref o121)] [(.ref u0)])) rfl (hb hby at_434)
            refine own_st st127 ?_
            show own_Go p e below _ T127 (mkF m 437 #[.val (.int mo), .val (.int po), .val (.int cc), .val (.int ls), .val (.long ch), .second, .val (.int mm), .val (.ref nb1), .val (.int nn), .val (.ref x61), .val (.int (1 : Int32)), .val (.int bs), .val (.ref o121)] [(.ref u0), (.ref u0)])
            refine own_st (fun t_ k_ => Jvm.RoadKit.acmp (g := (mkF m 437 #[.val (.int mo), .val (.int po), .val (.int cc), .val (.int ls), .val (.long ch), .second, .val (.int mm), .val (.ref nb1), .val (.int nn), .val (.ref x61), .val (.int (1 : Int32)), .val (.int bs), .val (.ref o121)] [(.ref u0), (.ref u0)])) X127 hx rfl rfl rfl (pc0 := 437) (pc' := 440) (same := true) rfl (hb hby at_437) rfl (decide_eq_true rfl) (by decide) (by decide) k_) ?_
            show own_Go p e below _ T127 (mkF m 440 #[.val (.int mo), .val (.int po), .val (.int cc), .val (.int ls), .val (.long ch), .second, .val (.int mm), .val (.ref nb1), .val (.int nn), .val (.ref x61), .val (.int (1 : Int32)), .val (.int bs), .val (.ref o121)] [])
            refine own_st (fun t_ k_ => XS.iconst X127.here hx rfl (hb hby at_440) k_) ?_
            show own_Go p e below _ T127 (mkF m 441 #[.val (.int mo), .val (.int po), .val (.int cc), .val (.int ls), .val (.long ch), .second, .val (.int mm), .val (.ref nb1), .val (.int nn), .val (.ref x61), .val (.int (1 : Int32)), .val (.int bs), .val (.ref o121)] [(.int (1 : Int32))])
            refine own_st (fun t_ k_ => XS.goto X127.here hx rfl (pc0 := 441) (pc' := 445) rfl (hb hby at_441) (by decide) (by decide) k_) ?_
            show own_Go p e below _ T127 (mkF m 445 #[.val (.int mo), .val (.int po), .val (.int cc), .val (.int ls), .val (.long ch), .second, .val (.int mm), .val (.ref nb1), .val (.int nn), .val (.ref x61), .val (.int (1 : Int32)), .val (.int bs), .val (.ref o121)] [(.int (1 : Int32))])
            refine own_retNS X127 hx hlk hZ hEL e127 hh B121 (t := .boolean) Bd.returns (by simp) (hb hby at_445) ?_ (by decide) (by decide)
            show Q0 n0 _ T127.heap _
            rw [e127]
            exact ⟨rfl, N124⟩
          · show own_Go p e below _ T61 (mkF m 411 #[.val (.int mo), .val (.int po), .val (.int cc), .val (.int ls), .val (.long ch), .second, .val (.int mm), .val (.ref nb1), .val (.int nn), .val (.ref x61), .val (.int (0 : Int32)), .val (.int bs), .unset] [(.ref x61)])
            rcases h_bs with ⟨rfl, hV⟩ | ⟨rfl, hV⟩
            · show own_Go p e below _ T61 (mkF m 411 #[.val (.int mo), .val (.int po), .val (.int cc), .val (.int ls), .val (.long ch), .second, .val (.int mm), .val (.ref nb1), .val (.int nn), .val (.ref x61), .val (.int (0 : Int32)), .val (.int (1 : Int32)), .unset] [(.ref x61)])
              have f128 := (Av.keep Kjb nin0)
              have f129 := (f128.keep Kq61 nin0)
              have f130 := (Ev.keep Kjb)
              have f131 := (f130.keep Kq61)
              have f132 := (Eu0.keep Kjb)
              have f133 := (f132.keep Kq61)
              have f134 := (Eu1.keep Kjb)
              have f135 := (f134.keep Kq61)
              have f136 := (Fn0.keep Kjb nin0)
              have f137 := (f136.keep Kq61 nin0)
              have f138 := (Fn1.keep Kjb nin0)
              have f139 := (f138.keep Kq61 nin0)
              have f140 := (EpA.keep Kjb)
              have f141 := (f140.keep Kq61)
              have f142 := (CpA.keep Kjb nin0)
              have f143 := (f142.keep Kq61 nin0)
              have f144 := (VpA.keep Kjb nin0)
              have f145 := (f144.keep Kq61 nin0)
              have f146 := (ApA.keep Kjb nin0)
              have f147 := (f146.keep Kq61 nin0)
              have f148 := (EpB.keep Kjb)
              have f149 := (f148.keep Kq61)
              have f150 := (CpB.keep Kjb nin0)
              have f151 := (f150.keep Kq61 nin0)
              have f152 := (VpB.keep Kjb nin0)
              have f153 := (f152.keep Kq61 nin0)
              have f154 := (ApB.keep Kjb nin0)
              have f155 := (f154.keep Kq61 nin0)
              have f156 := (Em.keep Kjb)
              have f157 := (f156.keep Kq61)
              have f158 := (Fm.keep Kjb nin0)
              have f159 := (f158.keep Kq61 nin0)
              have f160 := (f60.keep Kq61 all0)
              refine own_callS X61 hx (y := (⟨"com/example/gentle_nudge/gentlenudge/server/AccountKind", "fromWireName", "(Ljava/lang/String;)Ljava/util/Optional;"⟩ : MethodName)) hown (mvT hZ (hw _ (List.mem_of_getElem? (i := 36) rfl))) (mvT hZ (hw _ (List.mem_of_getElem? (i := 37) rfl))) (mvT hZ (hw _ (List.mem_of_getElem? (i := 38) rfl))) (mvT hZ (hw _ (List.mem_of_getElem? (i := 39) rfl))) (by decide) (backOf (W := 0) (rmFW l Z a0 hw [] x61 t61 kb61 (own_str nn [x0, x1, x2, x3, x4, x5, x6, x7]) (.ref u1) G sv u0 u1 m0 vq0 m1 vq1 em ks kbA kbB T61.heap n0 (Nat.le_trans Z0 K61.1) SV f129 f131 f133 f135 f137 f139 f141 f143 f145 f147 hppA l2pA f149 f151 f153 f155 hppB l2pB SE f157 f159 Ex61 Cq61 Vq61 Aq61 hp61 (own_strl nn x0 x1 x2 x3 x4 x5 x6 x7) SC hCS f160 (by rw [own_kind, if_neg hU, if_pos hV])) hZ (hw _ (List.mem_of_getElem? (i := 39) rfl)) (hw _ (List.mem_of_getElem? (i := 38) rfl)) (by decide) (by decide)) (g := (mkF m 411 #[.val (.int mo), .val (.int po), .val (.int cc), .val (.int ls), .val (.long ch), .second, .val (.int mm), .val (.ref nb1), .val (.int nn), .val (.ref x61), .val (.int (0 : Int32)), .val (.int (1 : Int32)), .unset] [(.ref x61)])) rfl (by rw [hml]; rfl) (argsL := [(.ref x61)]) (rest := []) (lenOf pd_10 rfl) rfl (by show 2 * 0 + _ ≤ _; exact Nat.le_of_eq rfl) (hb hby at_411) rfl rfl (by decide) (by decide) ?_
              rintro v161 T161 L161 X161 ⟨o161, rfl, Nq161, Kq161, Eo161, Fo161⟩
              have N161 := Fr.app N61 Nq161
              have K161 : Keep h0 T161.heap [] := K61.trans Kq161 all0
              have B161 := own_Bk.keep Kq161 sf0 B61
              show own_Go p e below _ T161 (mkF m 414 #[.val (.int mo), .val (.int po), .val (.int cc), .val (.int ls), .val (.long ch), .second, .val (.int mm), .val (.ref nb1), .val (.int nn), .val (.ref x61), .val (.int (0 : Int32)), .val (.int (1 : Int32)), .unset] [(.ref o161)])
              refine own_st (fun t_ k_ => XS.astore X161.here hx rfl (hb hby at_414) rfl rfl (l' := #[.val (.int mo), .val (.int po), .val (.int cc), .val (.int ls), .val (.long ch), .second, .val (.int mm), .val (.ref nb1), .val (.int nn), .val (.ref x61), .val (.int (0 : Int32)), .val (.int (1 : Int32)), .val (.ref o161)]) rfl k_) ?_
              show own_Go p e below _ T161 (mkF m 416 #[.val (.int mo), .val (.int po), .val (.int cc), .val (.int ls), .val (.long ch), .second, .val (.int mm), .val (.ref nb1), .val (.int nn), .val (.ref x61), .val (.int (0 : Int32)), .val (.int (1 : Int32)), .val (.ref o161)] [])
              refine own_st (fun t_ k_ => XS.iload X161.here hx rfl (hb hby at_416) rfl k_) ?_
              show own_Go p e below _ T161 (mkF m 418 #[.val (.int mo), .val (.int po), .val (.int cc), .val (.int ls), .val (.long ch), .second, .val (.int mm), .val (.ref nb1), .val (.int nn), .val (.ref x61), .val (.int (0 : Int32)), .val (.int (1 : Int32)), .val (.ref o161)] [(.int (0 : Int32))])
              refine own_st (fun t_ k_ => XS.ifYes X161.here hx rfl (pc0 := 418) (pc' := 446) rfl (hb hby at_418) rfl (by decide) (by decide) (by decide) k_) ?_
              show own_Go p e below _ T161 (mkF m 446 #[.val (.int mo), .val (.int po), .val (.int cc), .val (.int ls), .val (.long ch), .second, .val (.int mm), .val (.ref nb1), .val (.int nn), .val (.ref x61), .val (.int (0 : Int32)), .val (.int (1 : Int32)), .val (.ref o161)] [])
              refine own_st (fun t_ k_ => XS.iload X161.here hx rfl (hb hby at_446) rfl k_) ?_
              show own_Go p e below _ T161 (mkF m 448 #[.val (.int mo), .val (.int po), .val (.int cc), .val (.int ls), .val (.long ch), .second, .val (.int mm), .val (.ref nb1), .val (.int nn), .val (.ref x61), .val (.int (0 : Int32)), .val (.int (1 : Int32)), .val (.ref o161)] [(.int (1 : Int32))])
              refine own_st (fun t_ k_ => XS.ifNo X161.here hx rfl (hb hby at_448) rfl (by decide) k_) ?_
              show own_Go p e below _ T161 (mkF m 451 #[.val (.int mo), .val (.int po), .val (.int cc), .val (.int ls), .val (.long ch), .second, .val (.int mm), .val (.ref nb1), .val (.int nn), .val (.ref x61), .val (.int (0 : Int32)), .val (.int (1 : Int32)), .val (.ref o161)] [])
              refine own_st (fun t_ k_ => XS.aload X161.here hx rfl (hb hby at_451) rfl rfl k_) ?_
              show own_Go p e below _ T161 (mkF m 453 #[.val (.int mo), .val (.int po), .val (.int cc), .val (.int ls), .val (.long ch), .second, .val (.int mm), .val (.ref nb1), .val (.int nn), .val (.ref x61), .val (.int (0 : Int32)), .val (.int (1 : Int32)), .val (.ref o161)] [(.ref o161)])
              obtain ⟨cq163, kq163, q163a, q163b, q163c⟩ := isOf hZ rfl Eo161
              refine own_callV X161 hx (y := (⟨"java/util/Optional", "isPresent", "()Z"⟩ : MethodName)) (z := (⟨"java/util/Optional", "isPresent", "()Z"⟩ : MethodName)) hown (mvT hZ (hw _ (List.mem_of_getElem? (i := 86) rfl))) (mvT hZ (hw _ (List.mem_of_getElem? (i := 87) rfl))) (notFace_of_selects (args := #[]) (mvT hZ (hw _ (List.mem_of_getElem? (i := 89) rfl)))) (mvT hZ (hw _ (List.mem_of_getElem? (i := 89) rfl))) (mvT hZ (hw _ (List.mem_of_getElem? (i := 88) rfl))) (by decide) (backOf (W := 0) (rmIPR l Z a0 hw [] o161 u1 T161.heap n0 (Nat.le_trans Z0 K161.1) Fo161) hZ (hw _ (List.mem_of_getElem? (i := 90) rfl)) (hw _ (List.mem_of_getElem? (i := 71) rfl)) (by decide) (by decide)) q163a q163c (g := (mkF m 453 #[.val (.int mo), .val (.int po), .val (.int cc), .val (.int ls), .val (.long ch), .second, .val (.int mm), .val (.ref nb1), .val (.int nn), .val (.ref x61), .val (.int (0 : Int32)), .val (.int (1 : Int32)), .val (.ref o161)] [(.ref o161)])) rfl (by rw [hml]; rfl) (argsL := []) (rest := []) (lenOf pd_11 rfl) rfl (by show 2 * 0 + _ ≤ _; exact Nat.le_of_eq rfl) (hb hby at_453) rfl rfl (by decide) (by decide) ?_
              rintro v162 T162 L162 X162 ⟨rfl, Nq162, hh162⟩
              have N162 := Fr.app N161 Nq162
              show own_Go p e below _ T162 (mkF m 456 #[.val (.int mo), .val (.int po), .val (.int cc), .val (.int ls), .val (.long ch), .second, .val (.int mm), .val (.ref nb1), .val (.int nn), .val (.ref x61), .val (.int (0 : Int32)), .val (.int (1 : Int32)), .val (.ref o161)] [(.int (1 : Int32))])
              refine own_st (fun t_ k_ => XS.ifNo X162.here hx rfl (hb hby at_456) rfl (by decide) k_) ?_
              show own_Go p e below _ T162 (mkF m 459 #[.val (.int mo), .val (.int po), .val (.int cc), .val (.int ls), .val (.long ch), .second, .val (.int mm), .val (.ref nb1), .val (.int nn), .val (.ref x61), .val (.int (0 : Int32)), .val (.int (1 : Int32)), .val (.ref o161)] [])
              refine own_st (fun t_ k_ => XS.aload X162.here hx rfl (hb hby at_459) rfl rfl k_) ?_
              show own_Go p e below _ T162 (mkF m 461 #[.val (.int mo), .val (.int po), .val (.int cc), .val (.int ls), .val (.long ch), .second, .val (.int mm), .val (.ref nb1), .val (.int nn), .val (.ref x61), .val (.int (0 : Int32)), .val (.int (1 : Int32)), .val (.ref o161)] [(.ref o161)])
              obtain ⟨cq165, kq165, q165a, q165b, q165c⟩ := isOf hZ hh162 Eo161
              refine own_callV X162 hx (y := (⟨"java/util/Optional", "get", "()Ljava/lang/Object;"⟩ : MethodName)) (z := (⟨"java/util/Optional", "get", "()Ljava/lang/Object;"⟩ : MethodName)) hown (mvT hZ (hw _ (List.mem_of_getElem? (i := 91) rfl))) (mvT hZ (hw _ (List.mem_of_getElem? (i := 92) rfl))) (notFace_of_selects (args := #[]) (mvT hZ (hw _ (List.mem_of_getElem? (i := 94) rfl)))) (mvT hZ (hw _ (List.mem_of_getElem? (i := 94) rfl))) (mvT hZ (hw _ (List.mem_of_getElem? (i := 93) rfl))) (by decide) (backOf (W := 0) (rmGE l Z a0 hw [] o161 u1 T161.heap n0 (Nat.le_trans Z0 K161.1) Fo161) hZ (hw _ (List.mem_of_getElem? (i := 95) rfl)) (hw _ (List.mem_of_getElem? (i := 71) rfl)) (by decide) (by decide)) q165a q165c (g := (mkF m 461 #[.val (.int mo), .val (.int po), .val (.int cc), .val (.int ls), .val (.long ch), .second, .val (.int mm), .val (.ref nb1), .val (.int nn), .val (.ref x61), .val (.int (0 : Int32)), .val (.int (1 : Int32)), .val (.ref o161)] [(.ref o161)])) rfl (by rw [hml]; rfl) (argsL := []) (rest := []) (lenOf pd_12 rfl) rfl (by show 2 * 0 + _ ≤ _; exact Nat.le_of_eq rfl) (hb hby at_461) rfl hh162 (by decide) (by decide) ?_
              rintro v164 T164 L164 X164 ⟨rfl, Nq164, hh164⟩
              have N164 := Fr.app N162 Nq164
              show own_Go p e below _ T164 (mkF m 464 #[.val (.int mo), .val (.int po), .val (.int cc), .val (.int ls), .val (.long ch), .second, .val (.int mm), .val (.ref nb1), .val (.int nn), .val (.ref x61), .val (.int (0 : Int32)), .val (.int (1 : Int32)), .val (.ref o161)] [(.ref u1)])
              have f166 := (f160.keep Kq161 all0)
              obtain ⟨T167, X167, e167, st167⟩ := getS2 X164 hx hZ hown (host := "") (Or.inl (hw _ (List.mem_of_getElem? (i := 97) rfl))) Via.refl hh164 (Sta.ext f166.2 S1) (g := (mkF m 464 #[.val (.int mo), .val (.int po), .val (.int cc), .val (.int ls), .val (.long ch), .second, .val (.int mm), .val (.ref nb1), .val (.int nn), .val (.ref x61), .val (.int (0 : Int32)), .val (.int (1 : Int32)), .val (.ref o161)] [(.ref u1)])) rfl (hb hby at_464)
              refine own_st st167 ?_
              show own_Go p e below _ T167 (mkF m 467 #[.val (.int mo), .val (.int po), .val (.int cc), .val (.int ls), .val (.long ch), .second, .val (.int mm), .val (.ref nb1), .val (.int nn), .val (.ref x61), .val (.int (0 : Int32)), .val (.int (1 : Int32)), .val (.ref o161)] [(.ref u1), (.ref u1)])
              refine own_st (fun t_ k_ => Jvm.RoadKit.acmp (g := (mkF m 467 #[.val (.int mo), .val (.int po), .val (.int cc), .val (.int ls), .val (.long ch), .second, .val (.int mm), .val (.ref nb1), .val (.int nn), .val (.ref x61), .val (.int (0 : Int32)), .val (.int (1 : Int32)), .val (.ref o161)] [(.ref u1), (.ref u1)])) X167 hx rfl rfl rfl (pc0 := 467) (pc' := 470) (same := true) rfl (hb hby at_467) rfl (decide_eq_true rfl) (by decide) (by decide) k_) ?_
              show own_Go p e below _ T167 (mkF m 470 #[.val (.int mo), .val (.int po), .val (.int cc), .val (.int ls), .val (.long ch), .second, .val (.int mm), .val (.ref nb1), .val (.int nn), .val (.ref x61), .val (.int (0 : Int32)), .val (.int (1 : Int32)), .val (.ref o161)] [])
              refine own_st (fun t_ k_ => XS.iconst X167.here hx rfl (hb hby at_470) k_) ?_
              show own_Go p e below _ T167 (mkF m 471 #[.val (.int mo), .val (.int po), .val (.int cc), .val (.int ls), .val (.long ch), .second, .val (.int mm), .val (.ref nb1), .val (.int nn), .val (.ref x61), .val (.int (0 : Int32)), .val (.int (1 : Int32)), .val (.ref o161)] [(.int (1 : Int32))])
              refine own_st (fun t_ k_ => XS.goto X167.here hx rfl (pc0 := 471) (pc' := 475) rfl (hb hby at_471) (by decide) (by decide) k_) ?_
              show own_Go p e below _ T167 (mkF m 475 #[.val (.int mo), .val (.int po), .val (.int cc), .val (.int ls), .val (.long ch), .second, .val (.int mm), .val (.ref nb1), .val (.int nn), .val (.ref x61), .val (.int (0 : Int32)), .val (.int (1 : Int32)), .val (.ref o161)] [(.int (1 : Int32))])
              refine own_retNS X167 hx hlk hZ hEL e167 hh B161 (t := .boolean) Bd.returns (by simp) (hb hby at_475) ?_ (by decide) (by decide)
              show Q0 n0 _ T167.heap _
              rw [e167]
              exact ⟨rfl, N164⟩
            · show own_Go p e below _ T61 (mkF m 411 #[.val (.int mo), .val (.int po), .val (.int cc), .val (.int ls), .val (.long ch), .second, .val (.int mm), .val (.ref nb1), .val (.int nn), .val (.ref x61), .val (.int (0 : Int32)), .val (.int (0 : Int32)), .unset] [(.ref x61)])
              have f168 := (Av.keep Kjb nin0)
              have f169 := (f168.keep Kq61 nin0)
              have f170 := (Ev.keep Kjb)
              have f171 := (f170.keep Kq61)
              have f172 := (Eu0.keep Kjb)
              have f173 := (f172.keep Kq61)
              have f174 := (Eu1.keep Kjb)
              have f175 := (f174.keep Kq61)
              have f176 := (Fn0.keep Kjb nin0)
              have f177 := (f176.keep Kq61 nin0)
              have f178 := (Fn1.keep Kjb nin0)
              have f179 := (f178.keep Kq61 nin0)
              have f180 := (EpA.keep Kjb)
              have f181 := (f180.keep Kq61)
              have f182 := (CpA.keep Kjb nin0)
              have f183 := (f182.keep Kq61 nin0)
              have f184 := (VpA.keep Kjb nin0)
              have f185 := (f184.keep Kq61 nin0)
              have f186 := (ApA.keep Kjb nin0)
              have f187 := (f186.keep Kq61 nin0)
              have f188 := (EpB.keep Kjb)
              have f189 := (f188.keep Kq61)
              have f190 := (CpB.keep Kjb nin0)
              have f191 := (f190.keep Kq61 nin0)
              have f192 := (VpB.keep Kjb nin0)
              have f193 := (f192.keep Kq61 nin0)
              have f194 := (ApB.keep Kjb nin0)
              have f195 := (f194.keep Kq61 nin0)
              have f196 := (Em.keep Kjb)
              have f197 := (f196.keep Kq61)
              have f198 := (Fm.keep Kjb nin0)
              have f199 := (f198.keep Kq61 nin0)
              have f200 := (f60.keep Kq61 all0)
              refine own_callS X61 hx (y := (⟨"com/example/gentle_nudge/gentlenudge/server/AccountKind", "fromWireName", "(Ljava/lang/String;)Ljava/util/Optional;"⟩ : MethodName)) hown (mvT hZ (hw _ (List.mem_of_getElem? (i := 36) rfl))) (mvT hZ (hw _ (List.mem_of_getElem? (i := 37) rfl))) (mvT hZ (hw _ (List.mem_of_getElem? (i := 38) rfl))) (mvT hZ (hw _ (List.mem_of_getElem? (i := 39) rfl))) (by decide) (backOf (W := 0) (rmFW l Z a0 hw [] x61 t61 kb61 (own_str nn [x0, x1, x2, x3, x4, x5, x6, x7]) .null G sv u0 u1 m0 vq0 m1 vq1 em ks kbA kbB T61.heap n0 (Nat.le_trans Z0 K61.1) SV f169 f171 f173 f175 f177 f179 f181 f183 f185 f187 hppA l2pA f189 f191 f193 f195 hppB l2pB SE f197 f199 Ex61 Cq61 Vq61 Aq61 hp61 (own_strl nn x0 x1 x2 x3 x4 x5 x6 x7) SC hCS f200 (by rw [own_kind, if_neg hU, if_neg hV])) hZ (hw _ (List.mem_of_getElem? (i := 39) rfl)) (hw _ (List.mem_of_getElem? (i := 38) rfl)) (by decide) (by decide)) (g := (mkF m 411 #[.val (.int mo), .val (.int po), .val (.int cc), .val (.int ls), .val (.long ch), .second, .val (.int mm), .val (.ref nb1), .val (.int nn), .val (.ref x61), .val (.int (0 : Int32)), .val (.int (0 : Int32)), .unset] [(.ref x61)])) rfl (by rw [hml]; rfl) (argsL := [(.ref x61)]) (rest := []) (lenOf pd_10 rfl) rfl (by show 2 * 0 + _ ≤ _; exact Nat.le_of_eq rfl) (hb hby at_411) rfl rfl (by decide) (by decide) ?_
              rintro v201 T201 L201 X201 ⟨o201, rfl, Nq201, Kq201, Eo201, Fo201⟩
              have N201 := Fr.app N61 Nq201
              have K201 : Keep h0 T201.heap [] := K61.trans Kq201 all0
              have B201 := own_Bk.keep Kq201 sf0 B61
              show own_Go p e below _ T201 (mkF m 414 #[.val (.int mo), .val (.int po), .val (.int cc), .val (.int ls), .val (.long ch), .second, .val (.int mm), .val (.ref nb1), .val (.int nn), .val (.ref x61), .val (.int (0 : Int32)), .val (.int (0 : Int32)), .unset] [(.ref o201)])
              refine own_st (fun t_ k_ => XS.astore X201.here hx rfl (hb hby at_414) rfl rfl (l' := #[.val (.int mo), .val (.int po), .val (.int cc), .val (.int ls), .val (.long ch), .second, .val (.int mm), .val (.ref nb1), .val (.int nn), .val (.ref x61), .val (.int (0 : Int32)), .val (.int (0 : Int32)), .val (.ref o201)]) rfl k_) ?_
              show own_Go p e below _ T201 (mkF m 416 #[.val (.int mo), .val (.int po), .val (.int cc), .val (.int ls), .val (.long ch), .second, .val (.int mm), .val (.ref nb1), .val (.int nn), .val (.ref x61), .val (.int (0 : Int32)), .val (.int (0 : Int32)), .val (.ref o201)] [])
              refine own_st (fun t_ k_ => XS.iload X201.here hx rfl (hb hby at_416) rfl k_) ?_
              show own_Go p e below _ T201 (mkF m 418 #[.val (.int mo), .val (.int po), .val (.int cc), .val (.int ls), .val (.long ch), .second, .val (.int mm), .val (.ref nb1), .val (.int nn), .val (.ref x61), .val (.int (0 : Int32)), .val (.int (0 : Int32)), .val (.ref o201)] [(.int (0 : Int32))])
              refine own_st (fun t_ k_ => XS.ifYes X201.here hx rfl (pc0 := 418) (pc' := 446) rfl (hb hby at_418) rfl (by decide) (by decide) (by decide) k_) ?_
              show own_Go p e below _ T201 (mkF m 446 #[.val (.int mo), .val (.int po), .val (.int cc), .val (.int ls), .val (.long ch), .second, .val (.int mm), .val (.ref nb1), .val (.int nn), .val (.ref x61), .val (.int (0 : Int32)), .val (.int (0 : Int32)), .val (.ref o201)] [])
              refine own_st (fun t_ k_ => XS.iload X201.here hx rfl (hb hby at_446) rfl k_) ?_
              show own_Go p e below _ T201 (mkF m 448 #[.val (.int mo), .val (.int po), .val (.int cc), .val (.int ls), .val (.long ch), .second, .val (.int mm), .val (.ref nb1), .val (.int nn), .val (.ref x61), .val (.int (0 : Int32)), .val (.int (0 : Int32)), .val (.ref o201)] [(.int (0 : Int32))])
              refine own_st (fun t_ k_ => XS.ifYes X201.here hx rfl (pc0 := 448) (pc' := 476) rfl (hb hby at_448) rfl (by decide) (by decide) (by decide) k_) ?_
              show own_Go p e below _ T201 (mkF m 476 #[.val (.int mo), .val (.int po), .val (.int cc), .val (.int ls), .val (.long ch), .second, .val (.int mm), .val (.ref nb1), .val (.int nn), .val (.ref x61), .val (.int (0 : Int32)), .val (.int (0 : Int32)), .val (.ref o201)] [])
              refine own_st (fun t_ k_ => XS.aload X201.here hx rfl (hb hby at_476) rfl rfl k_) ?_
              show own_Go p e below _ T201 (mkF m 478 #[.val (.int mo), .val (.int po), .val (.int cc), .val (.int ls), .val (.long ch), .second, .val (.int mm), .val (.ref nb1), .val (.int nn), .val (.ref x61), .val (.int (0 : Int32)), .val (.int (0 : Int32)), .val (.ref o201)] [(.ref o201)])
              obtain ⟨cq203, kq203, q203a, q203b, q203c⟩ := isOf hZ rfl Eo201
              refine own_callV X201 hx (y := (⟨"java/util/Optional", "isPresent", "()Z"⟩ : MethodName)) (z := (⟨"java/util/Optional", "isPresent", "()Z"⟩ : MethodName)) hown (mvT hZ (hw _ (List.mem_of_getElem? (i := 86) rfl))) (mvT hZ (hw _ (List.mem_of_getElem? (i := 87) rfl))) (notFace_of_selects (args := #[]) (mvT hZ (hw _ (List.mem_of_getElem? (i := 89) rfl)))) (mvT hZ (hw _ (List.mem_of_getElem? (i := 89) rfl))) (mvT hZ (hw _ (List.mem_of_getElem? (i := 88) rfl))) (by decide) (backOf (W := 0) (rmIPN l Z a0 hw [] o201 T201.heap n0 (Nat.le_trans Z0 K201.1) Fo201) hZ (hw _ (List.mem_of_getElem? (i := 90) rfl)) (hw _ (List.mem_of_getElem? (i := 71) rfl)) (by decide) (by decide)) q203a q203c (g := (mkF m 478 #[.val (.int mo), .val (.int po), .val (.int cc), .val (.int ls), .val (.long ch), .second, .val (.int mm), .val (.ref nb1), .val (.int nn), .val (.ref x61), .val (.int (0 : Int32)), .val (.int (0 : Int32)), .val (.ref o201)] [(.ref o201)])) rfl (by rw [hml]; rfl) (argsL := []) (rest := []) (lenOf pd_11 rfl) rfl (by show 2 * 0 + _ ≤ _; exact Nat.le_of_eq rfl) (hb hby at_478) rfl rfl (by decide) (by decide) ?_
              rintro v202 T202 L202 X202 ⟨rfl, Nq202, hh202⟩
              have N202 := Fr.app N201 Nq202
              show own_Go p e below _ T202 (mkF m 481 #[.val (.int mo), .val (.int po), .val (.int cc), .val (.int ls), .val (.long ch), .second, .val (.int mm), .val (.ref nb1), .val (.int nn), .val (.ref x61), .val (.int (0 : Int32)), .val (.int (0 : Int32)), .val (.ref o201)] [(.int (0 : Int32))])
              refine own_st (fun t_ k_ => XS.ifNo X202.here hx rfl (hb hby at_481) rfl (by decide) k_) ?_
              show own_Go p e below _ T202 (mkF m 484 #[.val (.int mo), .val (.int po), .val (.int cc), .val (.int ls), .val (.long ch), .second, .val (.int mm), .val (.ref nb1), .val (.int nn), .val (.ref x61), .val (.int (0 : Int32)), .val (.int (0 : Int32)), .val (.ref o201)] [])
              refine own_st (fun t_ k_ => XS.iconst X202.here hx rfl (hb hby at_484) k_) ?_
              show own_Go p e below _ T202 (mkF m 485 #[.val (.int mo), .val (.int po), .val (.int cc), .val (.int ls), .val (.long ch), .second, .val (.int mm), .val (.ref nb1), .val (.int nn), .val (.ref x61), .val (.int (0 : Int32)), .val (.int (0 : Int32)), .val (.ref o201)] [(.int (1 : Int32))])
              refine own_st (fun t_ k_ => XS.goto X202.here hx rfl (pc0 := 485) (pc' := 489) rfl (hb hby at_485) (by decide) (by decide) k_) ?_
              show own_Go p e below _ T202 (mkF m 489 #[.val (.int mo), .val (.int po), .val (.int cc), .val (.int ls), .val (.long ch), .second, .val (.int mm), .val (.ref nb1), .val (.int nn), .val (.ref x61), .val (.int (0 : Int32)), .val (.int (0 : Int32)), .val (.ref o201)] [(.int (1 : Int32))])
              refine own_retNS X202 hx hlk hZ hEL hh202 hh B201 (t := .boolean) Bd.returns (by simp) (hb hby at_489) ?_ (by decide) (by decide)
              show Q0 n0 _ T202.heap _
              rw [hh202]
              exact ⟨rfl, N202⟩
        · show own_Go p e below _ T61 (mkF m 335 #[.val (.int mo), .val (.int po), .val (.int cc), .val (.int ls), .val (.long ch), .second, .val (.int mm), .val (.ref nb1), .val (.int nn), .val (.ref x61), .val (.int bu), .unset, .unset] [(.int (7 : Int32)), (.int nn)])
          by_cases he335_72 : nn = (7 : Int32)
          · refine own_st (fun t_ k_ => XS.icmpNo X61.here hx rfl (hb hby at_335) rfl (teq he335_72).2 k_) ?_
            show own_Go p e below _ T61 (mkF m 338 #[.val (.int mo), .val (.int po), .val (.int cc), .val (.int ls), .val (.long ch), .second, .val (.int mm), .val (.ref nb1), .val (.int nn), .val (.ref x61), .val (.int bu), .unset, .unset] [])
            refine own_st (fun t_ k_ => XS.aload X61.here hx rfl (hb hby at_338) rfl rfl k_) ?_
            show own_Go p e below _ T61 (mkF m 340 #[.val (.int mo), .val (.int po), .val (.int cc), .val (.int ls), .val (.long ch), .second, .val (.int mm), .val (.ref nb1), .val (.int nn), .val (.ref x61), .val (.int bu), .unset, .unset] [(.ref nb1)])
            refine own_st (fun t_ k_ => XS.iconst X61.here hx rfl (hb hby at_340) k_) ?_
            show own_Go p e below _ T61 (mkF m 341 #[.val (.int mo), .val (.int po), .val (.int cc), .val (.int ls), .val (.long ch), .second, .val (.int mm), .val (.ref nb1), .val (.int nn), .val (.ref x61), .val (.int bu), .unset, .unset] [(.int (0 : Int32)), (.ref nb1)])
            have f74 := (Vjb.keep Kq61 nin0)
            obtain ⟨cl73, Ar73, q73, S73, N73', H73, G73⟩ := id f74
            have hin73 : ¬ ((0 : Int32) < 0 ∨ cl73.slots.size ≤ ((0 : Int32)).toNatClampNeg) := inb_of S73 ⟨by decide, by decide⟩
            refine own_st (fun t_ k_ => X61.caload hx (j := (0 : Int32)) (v := (.int x0)) Ar73.1 (State.isArrayOf_alike hZ.alike Ar73.2.1) Ar73.2.2 hin73 (Has.at H73 hin73 rfl) (g := (mkF m 341 #[.val (.int mo), .val (.int po), .val (.int cc), .val (.int ls), .val (.long ch), .second, .val (.int mm), .val (.ref nb1), .val (.int nn), .val (.ref x61), .val (.int bu), .unset, .unset] [(.int (0 : Int32)), (.ref nb1)])) rfl rfl (hb hby at_341) t_ k_) ?_
            show own_Go p e below _ T61 (mkF m 342 #[.val (.int mo), .val (.int po), .val (.int cc), .val (.int ls), .val (.long ch), .second, .val (.int mm), .val (.ref nb1), .val (.int nn), .val (.ref x61), .val (.int bu), .unset, .unset] [(.int x0)])
            refine own_st (fun t_ k_ => XS.bipush X61.here hx rfl (hb hby at_342) k_) ?_
            show own_Go p e below _ T61 (mkF m 344 #[.val (.int mo), .val (.int po), .val (.int cc), .val (.int ls), .val (.long ch), .second, .val (.int mm), .val (.ref nb1), .val (.int nn), .val (.ref x61), .val (.int bu), .unset, .unset] [(.int (115 : Int32)), (.int x0)])
            by_cases he344_75 : x0 = (115 : Int32)
            · refine own_st (fun t_ k_ => XS.icmpNo X61.here hx rfl (hb hby at_344) rfl (teq he344_75).2 k_) ?_
              show own_Go p e below _ T61 (mkF m 347 #[.val (.int mo), .val (.int po), .val (.int cc), .val (.int ls), .val (.long ch), .second, .val (.int mm), .val (.ref nb1), .val (.int nn), .val (.ref x61), .val (.int bu), .unset, .unset] [])
              refine own_st (fun t_ k_ => XS.aload X61.here hx rfl (hb hby at_347) rfl rfl k_) ?_
              show own_Go p e below _ T61 (mkF m 349 #[.val (.int mo), .val (.int po), .val (.int cc), .val (.int ls), .val (.long ch), .second, .val (.int mm), .val (.ref nb1), .val (.int nn), .val (.ref x61), .val (.int bu), .unset, .unset] [(.ref nb1)])
              refine own_st (fun t_ k_ => XS.iconst X61.here hx rfl (hb hby at_349) k_) ?_
              show own_Go p e below _ T61 (mkF m 350 #[.val (.int mo), .val (.int po), .val (.int cc), .val (.int ls), .val (.long ch), .second, .val (.int mm), .val (.ref nb1), .val (.int nn), .val (.ref x61), .val (.int bu), .unset, .unset] [(.int (1 : Int32)), (.ref nb1)])
              obtain ⟨cl76, Ar76, q76, S76, N76', H76, G76⟩ := id f74
              have hin76 : ¬ ((1 : Int32) < 0 ∨ cl76.slots.size ≤ ((1 : Int32)).toNatClampNeg) := inb_of S76 ⟨by decide, by decide⟩
              refine own_st (fun t_ k_ => X61.caload hx (j := (1 : Int32)) (v := (.int x1)) Ar76.1 (State.isArrayOf_alike hZ.alike Ar76.2.1) Ar76.2.2 hin76 (Has.at H76 hin76 rfl) (g := (mkF m 350 #[.val (.int mo), .val (.int po), .val (.int cc), .val (.int ls), .val (.long ch), .second, .val (.int mm), .val (.ref nb1), .val (.int nn), .val (.ref x61), .val (.int bu), .unset, .unset] [(.int (1 : Int32)), (.ref nb1)])) rfl rfl (hb hby at_350) t_ k_) ?_
              show own_Go p e below _ T61 (mkF m 351 #[.val (.int mo), .val (.int po), .val (.int cc), .val (.int ls), .val (.long ch), .second, .val (.int mm), .val (.ref nb1), .val (.int nn), .val (.ref x61), .val (.int bu), .unset, .unset] [(.int x1)])
              refine own_st (fun t_ k_ => XS.bipush X61.here hx rfl (hb hby at_351) k_) ?_
              show own_Go p e below _ T61 (mkF m 353 #[.val (.int mo), .val (.int po), .val (.int cc), .val (.int ls), .val (.long ch), .second, .val (.int mm), .val (.ref nb1), .val (.int nn), .val (.ref x61), .val (.int bu), .unset, .unset] [(.int (101 : Int32)), (.int x1)])
              by_cases he353_77 : x1 = (101 : Int32)
              · refine own_st (fun t_ k_ => XS.icmpNo X61.here hx rfl (hb hby at_353) rfl (teq he353_77).2 k_) ?_
                show own_Go p e below _ T61 (mkF m 356 #[.val (.int mo), .val (.int po), .val (.int cc), .val (.int ls), .val (.long ch), .second, .val (.int mm), .val (.ref nb1), .val (.int nn), .val (.ref x61), .val (.int bu), .unset, .unset] [])
                refine own_st (fun t_ k_ => XS.aload X61.here hx rfl (hb hby at_356) rfl rfl k_) ?_
                show own_Go p e below _ T61 (mkF m 358 #[.val (.int mo), .val (.int po), .val (.int cc), .val (.int ls), .val (.long ch), .second, .val (.int mm), .val (.ref nb1), .val (.int nn), .val (.ref x61), .val (.int bu), .unset, .unset] [(.ref nb1)])
                refine own_st (fun t_ k_ => XS.iconst X61.here hx rfl (hb hby at_358) k_) ?_
                show own_Go p e below _ T61 (mkF m 359 #[.val (.int mo), .val (.int po), .val (.int cc), .val (.int ls), .val (.long ch), .second, .val (.int mm), .val (.ref nb1), .val (.int nn), .val (.ref x61), .val (.int bu), .unset, .unset] [(.int (2 : Int32)), (.ref nb1)])
                obtain ⟨cl78, Ar78, q78, S78, N78', H78, G78⟩ := id f74
                have hin78 : ¬ ((2 : Int32) < 0 ∨ cl78.slots.size ≤ ((2 : Int32)).toNatClampNeg) := inb_of S78 ⟨by decide, by decide⟩
                refine own_st (fun t_ k_ => X61.caload hx (j := (2 : Int32)) (v := (.int x2)) Ar78.1 (State.isArrayOf_alike hZ.alike Ar78.2.1) Ar78.2.2 hin78 (Has.at H78 hin78 rfl) (g := (mkF m 359 #[.val (.int mo), .val (.int po), .val (.int cc), .val (.int ls), .val (.long ch), .second, .val (.int mm), .val (.ref nb1), .val (.int nn), .val (.ref x61), .val (.int bu), .unset, .unset] [(.int (2 : Int32)), (.ref nb1)])) rfl rfl (hb hby at_359) t_ k_) ?_
                show own_Go p e below _ T61 (mkF m 360 #[.val (.int mo), .val (.int po), .val (.int cc), .val (.int ls), .val (.long ch), .second, .val (.int mm), .val (.ref nb1), .val (.int nn), .val (.ref x61), .val (.int bu), .unset, .unset] [(.int x2)])
                refine own_st (fun t_ k_ => XS.bipush X61.here hx rfl (hb hby at_360) k_) ?_
                show own_Go p e below _ T61 (mkF m 362 #[.val (.int mo), .val (.int po), .val (.int cc), .val (.int ls), .val (.long ch), .second, .val (.int mm), .val (.ref nb1), .val (.int nn), .val (.ref x61), .val (.int bu), .unset, .unset] [(.int (114 : Int32)), (.int x2)])
                by_cases he362_79 : x2 = (114 : Int32)
                · refine own_st (fun t_ k_ => XS.icmpNo X61.here hx rfl (hb hby at_362) rfl (teq he362_79).2 k_) ?_
                  show own_Go p e below _ T61 (mkF m 365 #[.val (.int mo), .val (.int po), .val (.int cc), .val (.int ls), .val (.long ch), .second, .val (.int mm), .val (.ref nb1), .val (.int nn), .val (.ref x61), .val (.int bu), .unset, .unset] [])
                  refine own_st (fun t_ k_ => XS.aload X61.here hx rfl (hb hby at_365) rfl rfl k_) ?_
                  show own_Go p e below _ T61 (mkF m 367 #[.val (.int mo), .val (.int po), .val (.int cc), .val (.int ls), .val (.long ch), .second, .val (.int mm), .val (.ref nb1), .val (.int nn), .val (.ref x61), .val (.int bu), .unset, .unset] [(.ref nb1)])
                  refine own_st (fun t_ k_ => XS.iconst X61.here hx rfl (hb hby at_367) k_) ?_
                  show own_Go p e below _ T61 (mkF m 368 #[.val (.int mo), .val (.int po), .val (.int cc), .val (.int ls), .val (.long ch), .second, .val (.int mm), .val (.ref nb1), .val (.int nn), .val (.ref x61), .val (.int bu), .unset, .unset] [(.int (3 : Int32)), (.ref nb1)])
                  obtain ⟨cl80, Ar80, q80, S80, N80', H80, G80⟩ := id f74
                  have hin80 : ¬ ((3 : Int32) < 0 ∨ cl80.slots.size ≤ ((3 : Int32)).toNatClampNeg) := inb_of S80 ⟨by decide, by decide⟩
                  refine own_st (fun t_ k_ => X61.caload hx (j := (3 : Int32)) (v := (.int x3)) Ar80.1 (State.isArrayOf_alike hZ.alike Ar80.2.1) Ar80.2.2 hin80 (Has.at H80 hin80 rfl) (g := (mkF m 368 #[.val (.int mo), .val (.int po), .val (.int cc), .val (.int ls), .val (.long ch), .second, .val (.int mm), .val (.ref nb1), .val (.int nn), .val (.ref x61), .val (.int bu), .unset, .unset] [(.int (3 : Int32)), (.ref nb1)])) rfl rfl (hb hby at_368) t_ k_) ?_
                  show own_Go p e below _ T61 (mkF m 369 #[.val (.int mo), .val (.int po), .val (.int cc), .val (.int ls), .val (.long ch), .second, .val (.int mm), .val (.ref nb1), .val (.int nn), .val (.ref x61), .val (.int bu), .unset, .unset] [(.int x3)])
                  refine own_st (fun t_ k_ => XS.bipush X61.here hx rfl (hb hby at_369) k_) ?_
                  show own_Go p e below _ T61 (mkF m 371 #[.val (.int mo), .val (.int po), .val (.int cc), .val (.int ls), .val (.long ch), .second, .val (.int mm), .val (.ref nb1), .val (.int nn), .val (.ref x61), .val (.int bu), .unset, .unset] [(.int (118 : Int32)), (.int x3)])
                  by_cases he371_81 : x3 = (118 : Int32)
                  · refine own_st (fun t_ k_ => XS.icmpNo X61.here hx rfl (hb hby at_371) rfl (teq he371_81).2 k_) ?_
                    show own_Go p e below _ T61 (mkF m 374 #[.val (.int mo), .val (.int po), .val (.int cc), .val (.int ls), .val (.long ch), .second, .val (.int mm), .val (.ref nb1), .val (.int nn), .val (.ref x61), .val (.int bu), .unset, .unset] [])
                    refine own_st (fun t_ k_ => XS.aload X61.here hx rfl (hb hby at_374) rfl rfl k_) ?_
                    show own_Go p e below _ T61 (mkF m 376 #[.val (.int mo), .val (.int po), .val (.int cc), .val (.int ls), .val (.long ch), .second, .val (.int mm), .val (.ref nb1), .val (.int nn), .val (.ref x61), .val (.int bu), .unset, .unset] [(.ref nb1)])
                    refine own_st (fun t_ k_ => XS.iconst X61.here hx rfl (hb hby at_376) k_) ?_
                    show own_Go p e below _ T61 (mkF m 377 #[.val (.int mo), .val (.int po), .val (.int cc), .val (.int ls), .val (.long ch), .second, .val (.int mm), .val (.ref nb1), .val (.int nn), .val (.ref x61), .val (.int bu), .unset, .unset] [(.int (4 : Int32)), (.ref nb1)])
                    obtain ⟨cl82, Ar82, q82, S82, N82', H82, G82⟩ := id f74
                    have hin82 : ¬ ((4 : Int32) < 0 ∨ cl82.slots.size ≤ ((4 : Int32)).toNatClampNeg) := inb_of S82 ⟨by decide, by decide⟩
                    refine own_st (fun t_ k_ => X61.caload hx (j := (4 : Int32)) (v := (.int x4)) Ar82.1 (State.isArrayOf_alike hZ.alike Ar82.2.1) Ar82.2.2 hin82 (Has.at H82 hin82 rfl) (g := (mkF m 377 #[.val (.int mo), .val (.int po), .val (.int cc), .val (.int ls), .val (.long ch), .second, .val (.int mm), .val (.ref nb1), .val (.int nn), .val (.ref x61), .val (.int bu), .unset, .unset] [(.int (4 : Int32)), (.ref nb1)])) rfl rfl (hb hby at_377) t_ k_) ?_
                    show own_Go p e below _ T61 (mkF m 378 #[.val (.int mo), .val (.int po), .val (.int cc), .val (.int ls), .val (.long ch), .second, .val (.int mm), .val (.ref nb1), .val (.int nn), .val (.ref x61), .val (.int bu), .unset, .unset] [(.int x4)])
                    refine own_st (fun t_ k_ => XS.bipush X61.here hx rfl (hb hby at_378) k_) ?_
                    show own_Go p e below _ T61 (mkF m 380 #[.val (.int mo), .val (.int po), .val (.int cc), .val (.int ls), .val (.long ch), .second, .val (.int mm), .val (.ref nb1), .val (.int nn), .val (.ref x61), .val (.int bu), .unset, .unset] [(.int (105 : Int32)), (.int x4)])
                    by_cases he380_83 : x4 = (105 : Int32)
                    · refine own_st (fun t_ k_ => XS.icmpNo X61.here hx rfl (hb hby at_380) rfl (teq he380_83).2 k_) ?_
                      show own_Go p e below _ T61 (mkF m 383 #[.val (.int mo), .val (.int po), .val (.int cc), .val (.int ls), .val (.long ch), .second, .val (.int mm), .val (.ref nb1), .val (.int nn), .val (.ref x61), .val (.int bu), .unset, .unset] [])
                      refine own_st (fun t_ k_ => XS.aload X61.here hx rfl (hb hby at_383) rfl rfl k_) ?_
                      show own_Go p e below _ T61 (mkF m 385 #[.val (.int mo), .val (.int po), .val (.int cc), .val (.int ls), .val (.long ch), .second, .val (.int mm), .val (.ref nb1), .val (.int nn), .val (.ref x61), .val (.int bu), .unset, .unset] [(.ref nb1)])
                      refine own_st (fun t_ k_ => XS.iconst X61.here hx rfl (hb hby at_385) k_) ?_
                      show own_Go p e below _ T61 (mkF m 386 #[.val (.int mo), .val (.int po), .val (.int cc), .val (.int ls), .val (.long ch), .second, .val (.int mm), .val (.ref nb1), .val (.int nn), .val (.ref x61), .val (.int bu), .unset, .unset] [(.int (5 : Int32)), (.ref nb1)])
                      obtain ⟨cl84, Ar84, q84, S84, N84', H84, G84⟩ := id f74
                      have hin84 : ¬ ((5 : Int32) < 0 ∨ cl84.slots.size ≤ ((5 : Int32)).toNatClampNeg) := inb_of S84 ⟨by decide, by decide⟩
                      refine own_st (fun t_ k_ => X61.caload hx (j := (5 : Int32)) (v := (.int x5)) Ar84.1 (State.isArrayOf_alike hZ.alike Ar84.2.1) Ar84.2.2 hin84 (Has.at H84 hin84 rfl) (g := (mkF m 386 #[.val (.int mo), .val (.int po), .val (.int cc), .val (.int ls), .val (.long ch), .second, .val (.int mm), .val (.ref nb1), .val (.int nn), .val (.ref x61), .val (.int bu), .unset, .unset] [(.int (5 : Int32)), (.ref nb1)])) rfl rfl (hb hby at_386) t_ k_) ?_
                      show own_Go p e below _ T61 (mkF m 387 #[.val (.int mo), .val (.int po), .val (.int cc), .val (.int ls), .val (.long ch), .second, .val (.int mm), .val (.ref nb1), .val (.int nn), .val (.ref x61), .val (.int bu), .unset, .unset] [(.int x5)])
                      refine own_st (fun t_ k_ => XS.bipush X61.here hx rfl (hb hby at_387) k_) ?_
                      show own_Go p e below _ T61 (mkF m 389 #[.val (.int mo), .val (.int po), .val (.int cc), .val (.int ls), .val (.long ch), .second, .val (.int mm), .val (.ref nb1), .val (.int nn), .val (.ref x61), .val (.int bu), .unset, .unset] [(.int (99 : Int32)), (.int x5)])
                      by_cases he389_85 : x5 = (99 : Int32)
                      · refine own_st (fun t_ k_ => XS.icmpNo X61.here hx rfl (hb hby at_389) rfl (teq he389_85).2 k_) ?_
                        show own_Go p e below _ T61 (mkF m 392 #[.val (.int mo), .val (.int po), .val (.int cc), .val (.int ls), .val (.long ch), .second, .val (.int mm), .val (.ref nb1), .val (.int nn), .val (.ref x61), .val (.int bu), .unset, .unset] [])
                        refine own_st (fun t_ k_ => XS.aload X61.here hx rfl (hb hby at_392) rfl rfl k_) ?_
                        show own_Go p e below _ T61 (mkF m 394 #[.val (.int mo), .val (.int po), .val (.int cc), .val (.int ls), .val (.long ch), .second, .val (.int mm), .val (.ref nb1), .val (.int nn), .val (.ref x61), .val (.int bu), .unset, .unset] [(.ref nb1)])
                        refine own_st (fun t_ k_ => XS.bipush X61.here hx rfl (hb hby at_394) k_) ?_
                        show own_Go p e below _ T61 (mkF m 396 #[.val (.int mo), .val (.int po), .val (.int cc), .val (.int ls), .val (.long ch), .second, .val (.int mm), .val (.ref nb1), .val (.int nn), .val (.ref x61), .val (.int bu), .unset, .unset] [(.int (6 : Int32)), (.ref nb1)])
                        obtain ⟨cl86, Ar86, q86, S86, N86', H86, G86⟩ := id f74
                        have hin86 : ¬ ((6 : Int32) < 0 ∨ cl86.slots.size ≤ ((6 : Int32)).toNatClampNeg) := inb_of S86 ⟨by decide, by decide⟩
                        refine own_st (fun t_ k_ => X61.caload hx (j := (6 : Int32)) (v := (.int x6)) Ar86.1 (State.isArrayOf_alike hZ.alike Ar86.2.1) Ar86.2.2 hin86 (Has.at H86 hin86 rfl) (g := (mkF m 396 #[.val (.int mo), .val (.int po), .val (.int cc), .val (.int ls), .val (.long ch), .second, .val (.int mm), .val (.ref nb1), .val (.int nn), .val (.ref x61), .val (.int bu), .unset, .unset] [(.int (6 : Int32)), (.ref nb1)])) rfl rfl (hb hby at_396) t_ k_) ?_
                        show own_Go p e below _ T61 (mkF m 397 #[.val (.int mo), .val (.int po), .val (.int cc), .val (.int ls), .val (.long ch), .second, .val (.int mm), .val (.ref nb1), .val (.int nn), .val (.ref x61), .val (.int bu), .unset, .unset] [(.int x6)])
                        refine own_st (fun t_ k_ => XS.bipush X61.here hx rfl (hb hby at_397) k_) ?_
                        show own_Go p e below _ T61 (mkF m 399 #[.val (.int mo), .val (.int po), .val (.int cc), .val (.int ls), .val (.long ch), .second, .val (.int mm), .val (.ref nb1), .val (.int nn), .val (.ref x61), .val (.int bu), .unset, .unset] [(.int (101 : Int32)), (.int x6)])
                        by_cases he399_87 : x6 = (101 : Int32)
                        · refine own_st (fun t_ k_ => XS.icmpNo X61.here hx rfl (hb hby at_399) rfl (teq he399_87).2 k_) ?_
                          show own_Go p e below _ T61 (mkF m 402 #[.val (.int mo), .val (.int po), .val (.int cc), .val (.int ls), .val (.long ch), .second, .val (.int mm), .val (.ref nb1), .val (.int nn), .val (.ref x61), .val (.int bu), .unset, .unset] [])
                          refine own_st (fun t_ k_ => XS.iconst X61.here hx rfl (hb hby at_402) k_) ?_
                          show own_Go p e below _ T61 (mkF m 403 #[.val (.int mo), .val (.int po), .val (.int cc), .val (.int ls), .val (.long ch), .second, .val (.int mm), .val (.ref nb1), .val (.int nn), .val (.ref x61), .val (.int bu), .unset, .unset] [(.int (1 : Int32))])
                          refine own_st (fun t_ k_ => XS.goto X61.here hx rfl (pc0 := 403) (pc' := 407) rfl (hb hby at_403) (by decide) (by decide) k_) ?_
                          show own_Go p e below _ T61 (mkF m 407 #[.val (.int mo), .val (.int po), .val (.int cc), .val (.int ls), .val (.long ch), .second, .val (.int mm), .val (.ref nb1), .val (.int nn), .val (.ref x61), .val (.int bu), .unset, .unset] [(.int (1 : Int32))])
                          exact J_bs (1 : Int32) (Or.inl ⟨rfl, (own_serv nn x0 x1 x2 x3 x4 x5 x6 x7 h9j).mpr ⟨he335_72, he344_75, he353_77, he362_79, he371_81, he380_83, he389_85, he399_87⟩⟩)
                        · refine own_st (fun t_ k_ => XS.icmpYes X61.here hx rfl (pc0 := 399) (pc' := 406) rfl (hb hby at_399) rfl (feq he399_87).2 (by decide) (by decide) k_) ?_
                          show own_Go p e below _ T61 (mkF m 406 #[.val (.int mo), .val (.int po), .val (.int cc), .val (.int ls), .val (.long ch), .second, .val (.int mm), .val (.ref nb1), .val (.int nn), .val (.ref x61), .val (.int bu), .unset, .unset] [])
                          refine own_st (fun t_ k_ => XS.iconst X61.here hx rfl (hb hby at_406) k_) ?_
                          show own_Go p e below _ T61 (mkF m 407 #[.val (.int mo), .val (.int po), .val (.int cc), .val (.int ls), .val (.long ch), .second, .val (.int mm), .val (.ref nb1), .val (.int nn), .val (.ref x61), .val (.int bu), .unset, .unset] [(.int (0 : Int32))])
                          exact J_bs (0 : Int32) (Or.inr ⟨rfl, fun q => absurd ((own_serv nn x0 x1 x2 x3 x4 x5 x6 x7 h9j).mp q).2.2.2.2.2.2.2 he399_87⟩)
                      · refine own_st (fun t_ k_ => XS.icmpYes X61.here hx rfl (pc0 := 389) (pc' := 406) rfl (hb hby at_389) rfl (feq he389_85).2 (by decide) (by decide) k_) ?_
                        show own_Go p e below _ T61 (mkF m 406 #[.val (.int mo), .val (.int po), .val (.int cc), .val (.int ls), .val (.long ch), .second, .val (.int mm), .val (.ref nb1), .val (.int nn), .val (.ref x61), .val (.int bu), .unset, .unset] [])
                        refine own_st (fun t_ k_ => XS.iconst X61.here hx rfl (hb hby at_406) k_) ?_
                        show own_Go p e below _ T61 (mkF m 407 #[.val (.int mo), .val (.int po), .val (.int cc), .val (.int ls), .val (.long ch), .second, .val (.int mm), .val (.ref nb1), .val (.int nn), .val (.ref x61), .val (.int bu), .unset, .unset] [(.int (0 : Int32))])
                        exact J_bs (0 : Int32) (Or.inr ⟨rfl, fun q => absurd ((own_serv nn x0 x1 x2 x3 x4 x5 x6 x7 h9j).mp q).2.2.2.2.2.2.1 he389_85⟩)
                    · refine own_st (fun t_ k_ => XS.icmpYes X61.here hx rfl (pc0 := 380) (pc' := 406) rfl (hb hby at_380) rfl (feq he380_83).2 (by decide) (by decide) k_) ?_
                      show own_Go p e below _ T61 (mkF m 406 #[.val (.int mo), .val (.int po), .val (.int cc), .val (.int ls), .val (.long ch), .second, .val (.int mm), .val (.ref nb1), .val (.int nn), .val (.ref x61), .val (.int bu), .unset, .unset] [])
                      refine own_st (fun t_ k_ => XS.iconst X61.here hx rfl (hb hby at_406) k_) ?_
                      show own_Go p e below _ T61 (mkF m 407 #[.val (.int mo), .val (.int po), .val (.int cc), .val (.int ls), .val (.long ch), .second, .val (.int mm), .val (.ref nb1), .val (.int nn), .val (.ref x61), .val (.int bu), .unset, .unset] [(.int (0 : Int32))])
                      exact J_bs (0 : Int32) (Or.inr ⟨rfl, fun q => absurd ((own_serv nn x0 x1 x2 x3 x4 x5 x6 x7 h9j).mp q).2.2.2.2.2.1 he380_83⟩)
                  · refine own_st (fun t_ k_ => XS.icmpYes X61.here hx rfl (pc0 := 371) (pc' := 406) rfl (hb hby at_371) rfl (feq he371_81).2 (by decide) (by decide) k_) ?_
                    show own_Go p e below _ T61 (mkF m 406 #[.val (.int mo), .val (.int po), .val (.int cc), .val (.int ls), .val (.long ch), .second, .val (.int mm), .val (.ref nb1), .val (.int nn), .val (.ref x61), .val (.int bu), .unset, .unset] [])
                    refine own_st (fun t_ k_ => XS.iconst X61.here hx rfl (hb hby at_406) k_) ?_
                    show own_Go p e below _ T61 (mkF m 407 #[.val (.int mo), .val (.int po), .val (.int cc), .val (.int ls), .val (.long ch), .second, .val (.int mm), .val (.ref nb1), .val (.int nn), .val (.ref x61), .val (.int bu), .unset, .unset] [(.int (0 : Int32))])
                    exact J_bs (0 : Int32) (Or.inr ⟨rfl, fun q => absurd ((own_serv nn x0 x1 x2 x3 x4 x5 x6 x7 h9j).mp q).2.2.2.2.1 he371_81⟩)
                · refine own_st (fun t_ k_ => XS.icmpYes X61.here hx rfl (pc0 := 362) (pc' := 406) rfl (hb hby at_362) rfl (feq he362_79).2 (by decide) (by decide) k_) ?_
                  show own_Go p e below _ T61 (mkF m 406 #[.val (.int mo), .val (.int po), .val (.int cc), .val (.int ls), .val (.long ch), .second, .val (.int mm), .val (.ref nb1), .val (.int nn), .val (.ref x61), .val (.int bu), .unset, .unset] [])
                  refine own_st (fun t_ k_ => XS.iconst X61.here hx rfl (hb hby at_406) k_) ?_
                  show own_Go p e below _ T61 (mkF m 407 #[.val (.int mo), .val (.int po), .val (.int cc), .val (.int ls), .val (.long ch), .second, .val (.int mm), .val (.ref nb1), .val (.int nn), .val (.ref x61), .val (.int bu), .unset, .unset] [(.int (0 : Int32))])
                  exact J_bs (0 : Int32) (Or.inr ⟨rfl, fun q => absurd ((own_serv nn x0 x1 x2 x3 x4 x5 x6 x7 h9j).mp q).2.2.2.1 he362_79⟩)
              · refine own_st (fun t_ k_ => XS.icmpYes X61.here hx rfl (pc0 := 353) (pc' := 406) rfl (hb hby at_353) rfl (feq he353_77).2 (by decide) (by decide) k_) ?_
                show own_Go p e below _ T61 (mkF m 406 #[.val (.int mo), .val (.int po), .val (.int cc), .val (.int ls), .val (.long ch), .second, .val (.int mm), .val (.ref nb1), .val (.int nn), .val (.ref x61), .val (.int bu), .unset, .unset] [])
                refine own_st (fun t_ k_ => XS.iconst X61.here hx rfl (hb hby at_406) k_) ?_
                show own_Go p e below _ T61 (mkF m 407 #[.val (.int mo), .val (.int po), .val (.int cc), .val (.int ls), .val (.long ch), .second, .val (.int mm), .val (.ref nb1), .val (.int nn), .val (.ref x61), .val (.int bu), .unset, .unset] [(.int (0 : Int32))])
                exact J_bs (0 : Int32) (Or.inr ⟨rfl, fun q => absurd ((own_serv nn x0 x1 x2 x3 x4 x5 x6 x7 h9j).mp q).2.2.1 he353_77⟩)
            · refine own_st (fun t_ k_ => XS.icmpYes X61.here hx rfl (pc0 := 344) (pc' := 406) rfl (hb hby at_344) rfl (feq he344_75).2 (by decide) (by decide) k_) ?_
              show own_Go p e below _ T61 (mkF m 406 #[.val (.int mo), .val (.int po), .val (.int cc), .val (.int ls), .val (.long ch), .second, .val (.int mm), .val (.ref nb1), .val (.int nn), .val (.ref x61), .val (.int bu), .unset, .unset] [])
              refine own_st (fun t_ k_ => XS.iconst X61.here hx rfl (hb hby at_406) k_) ?_
              show own_Go p e below _ T61 (mkF m 407 #[.val (.int mo), .val (.int po), .val (.int cc), .val (.int ls), .val (.long ch), .second, .val (.int mm), .val (.ref nb1), .val (.int nn), .val (.ref x61), .val (.int bu), .unset, .unset] [(.int (0 : Int32))])
              exact J_bs (0 : Int32) (Or.inr ⟨rfl, fun q => absurd ((own_serv nn x0 x1 x2 x3 x4 x5 x6 x7 h9j).mp q).2.1 he344_75⟩)
          · refine own_st (fun t_ k_ => XS.icmpYes X61.here hx rfl (pc0 := 335) (pc' := 406) rfl (hb hby at_335) rfl (feq he335_72).2 (by decide) (by decide) k_) ?_
            show own_Go p e below _ T61 (mkF m 406 #[.val (.int mo), .val (.int po), .val (.int cc), .val (.int ls), .val (.long ch), .second, .val (.int mm), .val (.ref nb1), .val (.int nn), .val (.ref x61), .val (.int bu), .unset, .unset] [])
            refine own_st (fun t_ k_ => XS.iconst X61.here hx rfl (hb hby at_406) k_) ?_
            show own_Go p e below _ T61 (mkF m 407 #[.val (.int mo), .val (.int po), .val (.int cc), .val (.int ls), .val (.long ch), .second, .val (.int mm), .val (.ref nb1), .val (.int nn), .val (.ref x61), .val (.int bu), .unset, .unset] [(.int (0 : Int32))])
            exact J_bs (0 : Int32) (Or.inr ⟨rfl, fun q => absurd ((own_serv nn x0 x1 x2 x3 x4 x5 x6 x7 h9j).mp q).1 he335_72⟩)
      · show own_Go p e below _ T61 (mkF m 285 #[.val (.int mo), .val (.int po), .val (.int cc), .val (.int ls), .val (.long ch), .second, .val (.int mm), .val (.ref nb1), .val (.int nn), .val (.ref x61), .unset, .unset, .unset] [(.int (4 : Int32)), (.int nn)])
        by_cases he285_62 : nn = (4 : Int32)
        · refine own_st (fun t_ k_ => XS.icmpNo X61.here hx rfl (hb hby at_285) rfl (teq he285_62).2 k_) ?_
          show own_Go p e below _ T61 (mkF m 288 #[.val (.int mo), .val (.int po), .val (.int cc), .val (.int ls), .val (.long ch), .second, .val (.int mm), .val (.ref nb1), .val (.int nn), .val (.ref x61), .unset, .unset, .unset] [])
          refine own_st (fun t_ k_ => XS.aload X61.here hx rfl (hb hby at_288) rfl rfl k_) ?_
          show own_Go p e below _ T61 (mkF m 290 #[.val (.int mo), .val (.int po), .val (.int cc), .val (.int ls), .val (.long ch), .second, .val (.int mm), .val (.ref nb1), .val (.int nn), .val (.ref x61), .unset, .unset, .unset] [(.ref nb1)])
          refine own_st (fun t_ k_ => XS.iconst X61.here hx rfl (hb hby at_290) k_) ?_
          show own_Go p e below _ T61 (mkF m 291 #[.val (.int mo), .val (.int po), .val (.int cc), .val (.int ls), .val (.long ch), .second, .val (.int mm), .val (.ref nb1), .val (.int nn), .val (.ref x61), .unset, .unset, .unset] [(.int (0 : Int32)), (.ref nb1)])
          have f64 := (Vjb.keep Kq61 nin0)
          obtain ⟨cl63, Ar63, q63, S63, N63', H63, G63⟩ := id f64
          have hin63 : ¬ ((0 : Int32) < 0 ∨ cl63.slots.size ≤ ((0 : Int32)).toNatClampNeg) := inb_of S63 ⟨by decide, by decide⟩
          refine own_st (fun t_ k_ => X61.caload hx (j := (0 : Int32)) (v := (.int x0)) Ar63.1 (State.isArrayOf_alike hZ.alike Ar63.2.1) Ar63.2.2 hin63 (Has.at H63 hin63 rfl) (g := (mkF m 291 #[.val (.int mo), .val (.int po), .val (.int cc), .val (.int ls), .val (.long ch), .second, .val (.int mm), .val (.ref nb1), .val (.int nn), .val (.ref x61), .unset, .unset, .unset] [(.int (0 : Int32)), (.ref nb1)])) rfl rfl (hb hby at_291) t_ k_) ?_
          show own_Go p e below _ T61 (mkF m 292 #[.val (.int mo), .val (.int po), .val (.int cc), .val (.int ls), .val (.long ch), .second, .val (.int mm), .val (.ref nb1), .val (.int nn), .val (.ref x61), .unset, .unset, .unset] [(.int x0)])
          refine own_st (fun t_ k_ => XS.bipush X61.here hx rfl (hb hby at_292) k_) ?_
          show own_Go p e below _ T61 (mkF m 294 #[.val (.int mo), .val (.int po), .val (.int cc), .val (.int ls), .val (.long ch), .second, .val (.int mm), .val (.ref nb1), .val (.int nn), .val (.ref x61), .unset, .unset, .unset] [(.int (117 : Int32)), (.int x0)])
          by_cases he294_65 : x0 = (117 : Int32)
          · refine own_st (fun t_ k_ => XS.icmpNo X61.here hx rfl (hb hby at_294) rfl (teq he294_65).2 k_) ?_
            show own_Go p e below _ T61 (mkF m 297 #[.val (.int mo), .val (.int po), .val (.int cc), .val (.int ls), .val (.long ch), .second, .val (.int mm), .val (.ref nb1), .val (.int nn), .val (.ref x61), .unset, .unset, .unset] [])
            refine own_st (fun t_ k_ => XS.aload X61.here hx rfl (hb hby at_297) rfl rfl k_) ?_
            show own_Go p e below _ T61 (mkF m 299 #[.val (.int mo), .val (.int po), .val (.int cc), .val (.int ls), .val (.long ch), .second, .val (.int mm), .val (.ref nb1), .val (.int nn), .val (.ref x61), .unset, .unset, .unset] [(.ref nb1)])
            refine own_st (fun t_ k_ => XS.iconst X61.here hx rfl (hb hby at_299) k_) ?_
            show own_Go p e below _ T61 (mkF m 300 #[.val (.int mo), .val (.int po), .val (.int cc), .val (.int ls), .val (.long ch), .second, .val (.int mm), .val (.ref nb1), .val (.int nn), .val (.ref x61), .unset, .unset, .unset] [(.int (1 : Int32)), (.ref nb1)])
            obtain ⟨cl66, Ar66, q66, S66, N66', H66, G66⟩ := id f64
            have hin66 : ¬ ((1 : Int32) < 0 ∨ cl66.slots.size ≤ ((1 : Int32)).toNatClampNeg) := inb_of S66 ⟨by decide, by decide⟩
            refine own_st (fun t_ k_ => X61.caload hx (j := (1 : Int32)) (v := (.int x1)) Ar66.1 (State.isArrayOf_alike hZ.alike Ar66.2.1) Ar66.2.2 hin66 (Has.at H66 hin66 rfl) (g := (mkF m 300 #[.val (.int mo), .val (.int po), .val (.int cc), .val (.int ls), .val (.long ch), .second, .val (.int mm), .val (.ref nb1), .val (.int nn), .val (.ref x61), .unset, .unset, .unset] [(.int (1 : Int32)), (.ref nb1)])) rfl rfl (hb hby at_300) t_ k_) ?_
            show own_Go p e below _ T61 (mkF m 301 #[.val (.int mo), .val (.int po), .val (.int cc), .val (.int ls), .val (.long ch), .second, .val (.int mm), .val (.ref nb1), .val (.int nn), .val (.ref x61), .unset, .unset, .unset] [(.int x1)])
            refine own_st (fun t_ k_ => XS.bipush X61.here hx rfl (hb hby at_301) k_) ?_
            show own_Go p e below _ T61 (mkF m 303 #[.val (.int mo), .val (.int po), .val (.int cc), .val (.int ls), .val (.long ch), .second, .val (.int mm), .val (.ref nb1), .val (.int nn), .val (.ref x61), .unset, .unset, .unset] [(.int (115 : Int32)), (.int x1)])
            by_cases he303_67 : x1 = (115 : Int32)
            · refine own_st (fun t_ k_ => XS.icmpNo X61.here hx rfl (hb hby at_303) rfl (teq he303_67).2 k_) ?_
              show own_Go p e below _ T61 (mkF m 306 #[.val (.int mo), .val (.int po), .val (.int cc), .val (.int ls), .val (.long ch), .second, .val (.int mm), .val (.ref nb1), .val (.int nn), .val (.ref x61), .unset, .unset, .unset] [])
              refine own_st (fun t_ k_ => XS.aload X61.here hx rfl (hb hby at_306) rfl rfl k_) ?_
              show own_Go p e below _ T61 (mkF m 308 #[.val (.int mo), .val (.int po), .val (.int cc), .val (.int ls), .val (.long ch), .second, .val (.int mm), .val (.ref nb1), .val (.int nn), .val (.ref x61), .unset, .unset, .unset] [(.ref nb1)])
              refine own_st (fun t_ k_ => XS.iconst X61.here hx rfl (hb hby at_308) k_) ?_
              show own_Go p e below _ T61 (mkF m 309 #[.val (.int mo), .val (.int po), .val (.int cc), .val (.int ls), .val (.long ch), .second, .val (.int mm), .val (.ref nb1), .val (.int nn), .val (.ref x61), .unset, .unset, .unset] [(.int (2 : Int32)), (.ref nb1)])
              obtain ⟨cl68, Ar68, q68, S68, N68', H68, G68⟩ := id f64
              have hin68 : ¬ ((2 : Int32) < 0 ∨ cl68.slots.size ≤ ((2 : Int32)).toNatClampNeg) := inb_of S68 ⟨by decide, by decide⟩
              refine own_st (fun t_ k_ => X61.caload hx (j := (2 : Int32)) (v := (.int x2)) Ar68.1 (State.isArrayOf_alike hZ.alike Ar68.2.1) Ar68.2.2 hin68 (Has.at H68 hin68 rfl) (g := (mkF m 309 #[.val (.int mo), .val (.int po), .val (.int cc), .val (.int ls), .val (.long ch), .second, .val (.int mm), .val (.ref nb1), .val (.int nn), .val (.ref x61), .unset, .unset, .unset] [(.int (2 : Int32)), (.ref nb1)])) rfl rfl (hb hby at_309) t_ k_) ?_
              show own_Go p e below _ T61 (mkF m 310 #[.val (.int mo), .val (.int po), .val (.int cc), .val (.int ls), .val (.long ch), .second, .val (.int mm), .val (.ref nb1), .val (.int nn), .val (.ref x61), .unset, .unset, .unset] [(.int x2)])
              refine own_st (fun t_ k_ => XS.bipush X61.here hx rfl (hb hby at_310) k_) ?_
              show own_Go p e below _ T61 (mkF m 312 #[.val (.int mo), .val (.int po), .val (.int cc), .val (.int ls), .val (.long ch), .second, .val (.int mm), .val (.ref nb1), .val (.int nn), .val (.ref x61), .unset, .unset, .unset] [(.int (101 : Int32)), (.int x2)])
              by_cases he312_69 : x2 = (101 : Int32)
              · refine own_st (fun t_ k_ => XS.icmpNo X61.here hx rfl (hb hby at_312) rfl (teq he312_69).2 k_) ?_
                show own_Go p e below _ T61 (mkF m 315 #[.val (.int mo), .val (.int po), .val (.int cc), .val (.int ls), .val (.long ch), .second, .val (.int mm), .val (.ref nb1), .val (.int nn), .val (.ref x61), .unset, .unset, .unset] [])
                refine own_st (fun t_ k_ => XS.aload X61.here hx rfl (hb hby at_315) rfl rfl k_) ?_
                show own_Go p e below _ T61 (mkF m 317 #[.val (.int mo), .val (.int po), .val (.int cc), .val (.int ls), .val (.long ch), .second, .val (.int mm), .val (.ref nb1), .val (.int nn), .val (.ref x61), .unset, .unset, .unset] [(.ref nb1)])
                refine own_st (fun t_ k_ => XS.iconst X61.here hx rfl (hb hby at_317) k_) ?_
                show own_Go p e below _ T61 (mkF m 318 #[.val (.int mo), .val (.int po), .val (.int cc), .val (.int ls), .val (.long ch), .second, .val (.int mm), .val (.ref nb1), .val (.int nn), .val (.ref x61), .unset, .unset, .unset] [(.int (3 : Int32)), (.ref nb1)])
                obtain ⟨cl70, Ar70, q70, S70, N70', H70, G70⟩ := id f64
                have hin70 : ¬ ((3 : Int32) < 0 ∨ cl70.slots.size ≤ ((3 : Int32)).toNatClampNeg) := inb_of S70 ⟨by decide, by decide⟩
                refine own_st (fun t_ k_ => X61.caload hx (j := (3 : Int32)) (v := (.int x3)) Ar70.1 (State.isArrayOf_alike hZ.alike Ar70.2.1) Ar70.2.2 hin70 (Has.at H70 hin70 rfl) (g := (mkF m 318 #[.val (.int mo), .val (.int po), .val (.int cc), .val (.int ls), .val (.long ch), .second, .val (.int mm), .val (.ref nb1), .val (.int nn), .val (.ref x61), .unset, .unset, .unset] [(.int (3 : Int32)), (.ref nb1)])) rfl rfl (hb hby at_318) t_ k_) ?_
                show own_Go p e below _ T61 (mkF m 319 #[.val (.int mo), .val (.int po), .val (.int cc), .val (.int ls), .val (.long ch), .second, .val (.int mm), .val (.ref nb1), .val (.int nn), .val (.ref x61), .unset, .unset, .unset] [(.int x3)])
                refine own_st (fun t_ k_ => XS.bipush X61.here hx rfl (hb hby at_319) k_) ?_
                show own_Go p e below _ T61 (mkF m 321 #[.val (.int mo), .val (.int po), .val (.int cc), .val (.int ls), .val (.long ch), .second, .val (.int mm), .val (.ref nb1), .val (.int nn), .val (.ref x61), .unset, .unset, .unset] [(.int (114 : Int32)), (.int x3)])
                by_cases he321_71 : x3 = (114 : Int32)
                · refine own_st (fun t_ k_ => XS.icmpNo X61.here hx rfl (hb hby at_321) rfl (teq he321_71).2 k_) ?_
                  show own_Go p e below _ T61 (mkF m 324 #[.val (.int mo), .val (.int po), .val (.int cc), .val (.int ls), .val (.long ch), .second, .val (.int mm), .val (.ref nb1), .val (.int nn), .val (.ref x61), .unset, .unset, .unset] [])
                  refine own_st (fun t_ k_ => XS.iconst X61.here hx rfl (hb hby at_324) k_) ?_
                  show own_Go p e below _ T61 (mkF m 325 #[.val (.int mo), .val (.int po), .val (.int cc), .val (.int ls), .val (.long ch), .second, .val (.int mm), .val (.ref nb1), .val (.int nn), .val (.ref x61), .unset, .unset, .unset] [(.int (1 : Int32))])
                  refine own_st (fun t_ k_ => XS.goto X61.here hx rfl (pc0 := 325) (pc' := 329) rfl (hb hby at_325) (by decide) (by decide) k_) ?_
                  show own_Go p e below _ T61 (mkF m 329 #[.val (.int mo), .val (.int po), .val (.int cc), .val (.int ls), .val (.long ch), .second, .val (.int mm), .val (.ref nb1), .val (.int nn), .val (.ref x61), .unset, .unset, .unset] [(.int (1 : Int32))])
                  exact J_bu (1 : Int32) (Or.inl ⟨rfl, (own_user nn x0 x1 x2 x3 x4 x5 x6 x7 h9j).mpr ⟨he285_62, he294_65, he303_67, he312_69, he321_71⟩⟩)
                · refine own_st (fun t_ k_ => XS.icmpYes X61.here hx rfl (pc0 := 321) (pc' := 328) rfl (hb hby at_321) rfl (feq he321_71).2 (by decide) (by decide) k_) ?_
                  show own_Go p e below _ T61 (mkF m 328 #[.val (.int mo), .val (.int po), .val (.int cc), .val (.int ls), .val (.long ch), .second, .val (.int mm), .val (.ref nb1), .val (.int nn), .val (.ref x61), .unset, .unset, .unset] [])
                  refine own_st (fun t_ k_ => XS.iconst X61.here hx rfl (hb hby at_328) k_) ?_
                  show own_Go p e below _ T61 (mkF m 329 #[.val (.int mo), .val (.int po), .val (.int cc), .val (.int ls), .val (.long ch), .second, .val (.int mm), .val (.ref nb1), .val (.int nn), .val (.ref x61), .unset, .unset, .unset] [(.int (0 : Int32))])
                  exact J_bu (0 : Int32) (Or.inr ⟨rfl, fun q => absurd ((own_user nn x0 x1 x2 x3 x4 x5 x6 x7 h9j).mp q).2.2.2.2 he321_71⟩)
              · refine own_st (fun t_ k_ => XS.icmpYes X61.here hx rfl (pc0 := 312) (pc' := 328) rfl (hb hby at_312) rfl (feq he312_69).2 (by decide) (by decide) k_) ?_
                show own_Go p e below _ T61 (mkF m 328 #[.val (.int mo), .val (.int po), .val (.int cc), .val (.int ls), .val (.long ch), .second, .val (.int mm), .val (.ref nb1), .val (.int nn), .val (.ref x61), .unset, .unset, .unset] [])
                refine own_st (fun t_ k_ => XS.iconst X61.here hx rfl (hb hby at_328) k_) ?_
                show own_Go p e below _ T61 (mkF m 329 #[.val (.int mo), .val (.int po), .val (.int cc), .val (.int ls), .val (.long ch), .second, .val (.int mm), .val (.ref nb1), .val (.int nn), .val (.ref x61), .unset, .unset, .unset] [(.int (0 : Int32))])
                exact J_bu (0 : Int32) (Or.inr ⟨rfl, fun q => absurd ((own_user nn x0 x1 x2 x3 x4 x5 x6 x7 h9j).mp q).2.2.2.1 he312_69⟩)
            · refine own_st (fun t_ k_ => XS.icmpYes X61.here hx rfl (pc0 := 303) (pc' := 328) rfl (hb hby at_303) rfl (feq he303_67).2 (by decide) (by decide) k_) ?_
              show own_Go p e below _ T61 (mkF m 328 #[.val (.int mo), .val (.int po), .val (.int cc), .val (.int ls), .val (.long ch), .second, .val (.int mm), .val (.ref nb1), .val (.int nn), .val (.ref x61), .unset, .unset, .unset] [])
              refine own_st (fun t_ k_ => XS.iconst X61.here hx rfl (hb hby at_328) k_) ?_
              show own_Go p e below _ T61 (mkF m 329 #[.val (.int mo), .val (.int po), .val (.int cc), .val (.int ls), .val (.long ch), .second, .val (.int mm), .val (.ref nb1), .val (.int nn), .val (.ref x61), .unset, .unset, .unset] [(.int (0 : Int32))])
              exact J_bu (0 : Int32) (Or.inr ⟨rfl, fun q => absurd ((own_user nn x0 x1 x2 x3 x4 x5 x6 x7 h9j).mp q).2.2.1 he303_67⟩)
          · refine own_st (fun t_ k_ => XS.icmpYes X61.here hx rfl (pc0 := 294) (pc' := 328) rfl (hb hby at_294) rfl (feq he294_65).2 (by decide) (by decide) k_) ?_
            show own_Go p e below _ T61 (mkF m 328 #[.val (.int mo), .val (.int po), .val (.int cc), .val (.int ls), .val (.long ch), .second, .val (.int mm), .val (.ref nb1), .val (.int nn), .val (.ref x61), .unset, .unset, .unset] [])
            refine own_st (fun t_ k_ => XS.iconst X61.here hx rfl (hb hby at_328) k_) ?_
            show own_Go p e below _ T61 (mkF m 329 #[.val (.int mo), .val (.int po), .val (.int cc), .val (.int ls), .val (.long ch), .second, .val (.int mm), .val (.ref nb1), .val (.int nn), .val (.ref x61), .unset, .unset, .unset] [(.int (0 : Int32))])
            exact J_bu (0 : Int32) (Or.inr ⟨rfl, fun q => absurd ((own_user nn x0 x1 x2 x3 x4 x5 x6 x7 h9j).mp q).2.1 he294_65⟩)
        · refine own_st (fun t_ k_ => XS.icmpYes X61.here hx rfl (pc0 := 285) (pc' := 328) rfl (hb hby at_285) rfl (feq he285_62).2 (by decide) (by decide) k_) ?_
          show own_Go p e below _ T61 (mkF m 328 #[.val (.int mo), .val (.int po), .val (.int cc), .val (.int ls), .val (.long ch), .second, .val (.int mm), .val (.ref nb1), .val (.int nn), .val (.ref x61), .unset, .unset, .unset] [])
          refine own_st (fun t_ k_ => XS.iconst X61.here hx rfl (hb hby at_328) k_) ?_
          show own_Go p e below _ T61 (mkF m 329 #[.val (.int mo), .val (.int po), .val (.int cc), .val (.int ls), .val (.long ch), .second, .val (.int mm), .val (.ref nb1), .val (.int nn), .val (.ref x61), .unset, .unset, .unset] [(.int (0 : Int32))])
          exact J_bu (0 : Int32) (Or.inr ⟨rfl, fun q => absurd ((own_user nn x0 x1 x2 x3 x4 x5 x6 x7 h9j).mp q).1 he285_62⟩)
    · intro J273
      show own_Go p e below _ Tja (mkF m 235 #[.val (.int mo), .val (.int po), .val (.int cc), .val (.int ls), .val (.long ch), .second, .val (.int mm), .val (.ref nb1), .val (.int nn), .unset, .unset, .unset, .unset] [])
      refine own_st (fun t_ k_ => XS.iloadN Xja.here hx rfl (hb hby at_235) rfl k_) ?_
      show own_Go p e below _ Tja (mkF m 236 #[.val (.int mo), .val (.int po), .val (.int cc), .val (.int ls), .val (.long ch), .second, .val (.int mm), .val (.ref nb1), .val (.int nn), .unset, .unset, .unset, .unset] [(.int ls)])
      refine own_st (fun t_ k_ => XS.bipush Xja.here hx rfl (hb hby at_236) k_) ?_
      show own_Go p e below _ Tja (mkF m 238 #[.val (.int mo), .val (.int po), .val (.int cc), .val (.int ls), .val (.long ch), .second, .val (.int mm), .val (.ref nb1), .val (.int nn), .unset, .unset, .unset, .unset] [(.int (16 : Int32)), (.int ls)])
      refine own_st (fun t_ k_ => XS.iand Xja.here hx rfl (hb hby at_238) rfl k_) ?_
      show own_Go p e below _ Tja (mkF m 239 #[.val (.int mo), .val (.int po), .val (.int cc), .val (.int ls), .val (.long ch), .second, .val (.int mm), .val (.ref nb1), .val (.int nn), .unset, .unset, .unset, .unset] [(.int (ls &&& (16 : Int32)))])
      by_cases hc239_40 : (ls &&& (16 : Int32)) = (0 : Int32)
      · refine own_st (fun t_ k_ => XS.ifYes Xja.here hx rfl (pc0 := 239) (pc' := 253) rfl (hb hby at_239) rfl ((if0 _ _).trans (teq hc239_40).1) (by decide) (by decide) k_) ?_
        show own_Go p e below _ Tja (mkF m 253 #[.val (.int mo), .val (.int po), .val (.int cc), .val (.int ls), .val (.long ch), .second, .val (.int mm), .val (.ref nb1), .val (.int nn), .unset, .unset, .unset, .unset] [])
        refine own_st (fun t_ k_ => XS.iloadN Xja.here hx rfl (hb hby at_253) rfl k_) ?_
        show own_Go p e below _ Tja (mkF m 254 #[.val (.int mo), .val (.int po), .val (.int cc), .val (.int ls), .val (.long ch), .second, .val (.int mm), .val (.ref nb1), .val (.int nn), .unset, .unset, .unset, .unset] [(.int po)])
        refine own_st (fun t_ k_ => XS.bipush Xja.here hx rfl (hb hby at_254) k_) ?_
        show own_Go p e below _ Tja (mkF m 256 #[.val (.int mo), .val (.int po), .val (.int cc), .val (.int ls), .val (.long ch), .second, .val (.int mm), .val (.ref nb1), .val (.int nn), .unset, .unset, .unset, .unset] [(.int (8 : Int32)), (.int po)])
        refine own_st (fun t_ k_ => XS.iand Xja.here hx rfl (hb hby at_256) rfl k_) ?_
        show own_Go p e below _ Tja (mkF m 257 #[.val (.int mo), .val (.int po), .val (.int cc), .val (.int ls), .val (.long ch), .second, .val (.int mm), .val (.ref nb1), .val (.int nn), .unset, .unset, .unset, .unset] [(.int (po &&& (8 : Int32)))])
        by_cases hc257_41 : (po &&& (8 : Int32)) = (0 : Int32)
        · refine own_st (fun t_ k_ => XS.ifYes Xja.here hx rfl (pc0 := 257) (pc' := 273) rfl (hb hby at_257) rfl ((if0 _ _).trans (teq hc257_41).1) (by decide) (by decide) k_) ?_
          show own_Go p e below _ Tja (mkF m 273 #[.val (.int mo), .val (.int po), .val (.int cc), .val (.int ls), .val (.long ch), .second, .val (.int mm), .val (.ref nb1), .val (.int nn), .unset, .unset, .unset, .unset] [])
          exact J273 x0 x1 x2 x3 x4 x5 x6 x7 nn _ _ _ Xja eja Nja Kja Bja Vja ⟨hL0, hL1, hL2, hL3, hL4, hL5, hL6, hL7⟩ h9j
        · refine own_st (fun t_ k_ => XS.ifNo Xja.here hx rfl (hb hby at_257) rfl ((if0 _ _).trans (feq hc257_41).1) k_) ?_
          show own_Go p e below _ Tja (mkF m 260 #[.val (.int mo), .val (.int po), .val (.int cc), .val (.int ls), .val (.long ch), .second, .val (.int mm), .val (.ref nb1), .val (.int nn), .unset, .unset, .unset, .unset] [])
          refine own_st (fun t_ k_ => XS.aload Xja.here hx rfl (hb hby at_260) rfl rfl k_) ?_
          show own_Go p e below _ Tja (mkF m 262 #[.val (.int mo), .val (.int po), .val (.int cc), .val (.int ls), .val (.long ch), .second, .val (.int mm), .val (.ref nb1), .val (.int nn), .unset, .unset, .unset, .unset] [(.ref nb1)])
          refine own_st (fun t_ k_ => XS.iloadN Xja.here hx rfl (hb hby at_262) rfl k_) ?_
          show own_Go p e below _ Tja (mkF m 263 #[.val (.int mo), .val (.int po), .val (.int cc), .val (.int ls), .val (.long ch), .second, .val (.int mm), .val (.ref nb1), .val (.int nn), .unset, .unset, .unset, .unset] [(.int po), (.ref nb1)])
          refine own_st (fun t_ k_ => XS.bipush Xja.here hx rfl (hb hby at_263) k_) ?_
          show own_Go p e below _ Tja (mkF m 265 #[.val (.int mo), .val (.int po), .val (.int cc), .val (.int ls), .val (.long ch), .second, .val (.int mm), .val (.ref nb1), .val (.int nn), .unset, .unset, .unset, .unset] [(.int (7 : Int32)), (.int po), (.ref nb1)])
          refine own_st (fun t_ k_ => XS.iand Xja.here hx rfl (hb hby at_265) rfl k_) ?_
          show own_Go p e below _ Tja (mkF m 266 #[.val (.int mo), .val (.int po), .val (.int cc), .val (.int ls), .val (.long ch), .second, .val (.int mm), .val (.ref nb1), .val (.int nn), .unset, .unset, .unset, .unset] [(.int (po &&& (7 : Int32))), (.ref nb1)])
          have d_pz : (po &&& (7 : Int32)) = (0 : Int32) ∨ (po &&& (7 : Int32)) = (1 : Int32) ∨ (po &&& (7 : Int32)) = (2 : Int32) ∨ (po &&& (7 : Int32)) = (3 : Int32) ∨ (po &&& (7 : Int32)) = (4 : Int32) ∨ (po &&& (7 : Int32)) = (5 : Int32) ∨ (po &&& (7 : Int32)) = (6 : Int32) ∨ (po &&& (7 : Int32)) = (7 : Int32) := own_and7 _
          generalize h_pz : (po &&& (7 : Int32)) = pz at d_pz ⊢
          show own_Go p e below _ Tja (mkF m 266 #[.val (.int mo), .val (.int po), .val (.int cc), .val (.int ls), .val (.long ch), .second, .val (.int mm), .val (.ref nb1), .val (.int nn), .unset, .unset, .unset, .unset] [(.int pz), (.ref nb1)])
          rcases (d_pz : pz = (0 : Int32) ∨ pz = (1 : Int32) ∨ pz = (2 : Int32) ∨ pz = (3 : Int32) ∨ pz = (4 : Int32) ∨ pz = (5 : Int32) ∨ pz = (6 : Int32) ∨ pz = (7 : Int32)) with rfl | rfl | rfl | rfl | rfl | rfl | rfl | rfl
          · show own_Go p e below _ Tja (mkF m 266 #[.val (.int mo), .val (.int po), .val (.int cc), .val (.int ls), .val (.long ch), .second, .val (.int mm), .val (.ref nb1), .val (.int nn), .unset, .unset, .unset, .unset] [(.int (0 : Int32)), (.ref nb1)])
            refine own_st (fun t_ k_ => XS.iloadN Xja.here hx rfl (hb hby at_266) rfl k_) ?_
            show own_Go p e below _ Tja (mkF m 267 #[.val (.int mo), .val (.int po), .val (.int cc), .val (.int ls), .val (.long ch), .second, .val (.int mm), .val (.ref nb1), .val (.int nn), .unset, .unset, .unset, .unset] [(.int cc), (.int (0 : Int32)), (.ref nb1)])
            refine own_st (fun t_ k_ => XS.sipush Xja.here hx rfl (hb hby at_267) k_) ?_
            show own_Go p e below _ Tja (mkF m 270 #[.val (.int mo), .val (.int po), .val (.int cc), .val (.int ls), .val (.long ch), .second, .val (.int mm), .val (.ref nb1), .val (.int nn), .unset, .unset, .unset, .unset] [(.int (255 : Int32)), (.int cc), (.int (0 : Int32)), (.ref nb1)])
            refine own_st (fun t_ k_ => XS.iand Xja.here hx rfl (hb hby at_270) rfl k_) ?_
            show own_Go p e below _ Tja (mkF m 271 #[.val (.int mo), .val (.int po), .val (.int cc), .val (.int ls), .val (.long ch), .second, .val (.int mm), .val (.ref nb1), .val (.int nn), .unset, .unset, .unset, .unset] [(.int (cc &&& (255 : Int32))), (.int (0 : Int32)), (.ref nb1)])
            refine own_st (fun t_ k_ => XS.i2c Xja.here hx rfl (hb hby at_271) rfl k_) ?_
            show own_Go p e below _ Tja (mkF m 272 #[.val (.int mo), .val (.int po), .val (.int cc), .val (.int ls), .val (.long ch), .second, .val (.int mm), .val (.ref nb1), .val (.int nn), .unset, .unset, .unset, .unset] [(.int ((cc &&& (255 : Int32)).toUInt32.toUInt16.toUInt32.toInt32)), (.int (0 : Int32)), (.ref nb1)])
            obtain ⟨cl42, Ar42, q42, S42, N42', H42, G42⟩ := id Vja
            have hin42 : ¬ ((0 : Int32) < 0 ∨ cl42.slots.size ≤ ((0 : Int32)).toNatClampNeg) := inb_of S42 ⟨by decide, by decide⟩
            obtain ⟨T42, h42, X42, e42, W42, st42⟩ := stC Xja hx hZ eja Ar42 (j := (0 : Int32)) hin42 (g := (mkF m 272 #[.val (.int mo), .val (.int po), .val (.int cc), .val (.int ls), .val (.long ch), .second, .val (.int mm), .val (.ref nb1), .val (.int nn), .unset, .unset, .unset, .unset] [(.int ((cc &&& (255 : Int32)).toUInt32.toUInt16.toUInt32.toInt32)), (.int (0 : Int32)), (.ref nb1)])) rfl rfl (hb hby at_272)
            have V42 : Arv Z h42 nb1 k1 .char (8 : Int32) [(.int (nar .char ((cc &&& (255 : Int32)).toUInt32.toUInt16.toUInt32.toInt32))), (.int x1), (.int x2), (.int x3), (.int x4), (.int x5), (.int x6), (.int x7)] (.int (0 : Int32)) := Arv.set Ar42 q42 S42 N42' H42 G42 (fits_nar_char _) W42 0 rfl (Nat.le_of_ble_eq_true rfl)
            refine own_st st42 ?_
            have Sw42 := (Safe.arv (EL := consts_1) hZ.alike Vja (by decide))
            have B42 := own_Bk.wr W42 Sw42 Bja
            have N42 := Fr.snoc X42 Nja g_nb1
            have K42 : Keep h0 h42 [] := Kja.wr W42 (Or.inr sz_nb1)
            show own_Go p e below _ T42 (mkF m 273 #[.val (.int mo), .val (.int po), .val (.int cc), .val (.int ls), .val (.long ch), .second, .val (.int mm), .val (.ref nb1), .val (.int nn), .unset, .unset, .unset, .unset] [])
            exact J273 (nar .char ((cc &&& (255 : Int32)).toUInt32.toUInt16.toUInt32.toInt32)) x1 x2 x3 x4 x5 x6 x7 nn _ _ _ X42 e42 N42 K42 B42 V42 ⟨(own_i2cLN _), hL1, hL2, hL3, hL4, hL5, hL6, hL7⟩ h9j
          · show own_Go p e below _ Tja (mkF m 266 #[.val (.int mo), .val (.int po), .val (.int cc), .val (.int ls), .val (.long ch), .second, .val (.int mm), .val (.ref nb1), .val (.int nn), .unset, .unset, .unset, .unset] [(.int (1 : Int32)), (.ref nb1)])
            refine own_st (fun t_ k_ => XS.iloadN Xja.here hx rfl (hb hby at_266) rfl k_) ?_
            show own_Go p e below _ Tja (mkF m 267 #[.val (.int mo), .val (.int po), .val (.int cc), .val (.int ls), .val (.long ch), .second, .val (.int mm), .val (.ref nb1), .val (.int nn), .unset, .unset, .unset, .unset] [(.int cc), (.int (1 : Int32)), (.ref nb1)])
            refine own_st (fun t_ k_ => XS.sipush Xja.here hx rfl (hb hby at_267) k_) ?_
            show own_Go p e below _ Tja (mkF m 270 #[.val (.int mo), .val (.int po), .val (.int cc), .val (.int ls), .val (.long ch), .second, .val (.int mm), .val (.ref nb1), .val (.int nn), .unset, .unset, .unset, .unset] [(.int (255 : Int32)), (.int cc), (.int (1 : Int32)), (.ref nb1)])
            refine own_st (fun t_ k_ => XS.iand Xja.here hx rfl (hb hby at_270) rfl k_) ?_
            show own_Go p e below _ Tja (mkF m 271 #[.val (.int mo), .val (.int po), .val (.int cc), .val (.int ls), .val (.long ch), .second, .val (.int mm), .val (.ref nb1), .val (.int nn), .unset, .unset, .unset, .unset] [(.int (cc &&& (255 : Int32))), (.int (1 : Int32)), (.ref nb1)])
            refine own_st (fun t_ k_ => XS.i2c Xja.here hx rfl (hb hby at_271) rfl k_) ?_
            show own_Go p e below _ Tja (mkF m 272 #[.val (.int mo), .val (.int po), .val (.int cc), .val (.int ls), .val (.long ch), .second, .val (.int mm), .val (.ref nb1), .val (.int nn), .unset, .unset, .unset, .unset] [(.int ((cc &&& (255 : Int32)).toUInt32.toUInt16.toUInt32.toInt32)), (.int (1 : Int32)), (.ref nb1)])
            obtain ⟨cl43, Ar43, q43, S43, N43', H43, G43⟩ := id Vja
            have hin43 : ¬ ((1 : Int32) < 0 ∨ cl43.slots.size ≤ ((1 : Int32)).toNatClampNeg) := inb_of S43 ⟨by decide, by decide⟩
            obtain ⟨T43, h43, X43, e43, W43, st43⟩ := stC Xja hx hZ eja Ar43 (j := (1 : Int32)) hin43 (g := (mkF m 272 #[.val (.int mo), .val (.int po), .val (.int cc), .val (.int ls), .val (.long ch), .second, .val (.int mm), .val (.ref nb1), .val (.int nn), .unset, .unset, .unset, .unset] [(.int ((cc &&& (255 : Int32)).toUInt32.toUInt16.toUInt32.toInt32)), (.int (1 : Int32)), (.ref nb1)])) rfl rfl (hb hby at_272)
            have V43 : Arv Z h43 nb1 k1 .char (8 : Int32) [(.int x0), (.int (nar .char ((cc &&& (255 : Int32)).toUInt32.toUInt16.toUInt32.toInt32))), (.int x2), (.int x3), (.int x4), (.int x5), (.int x6), (.int x7)] (.int (0 : Int32)) := Arv.set Ar43 q43 S43 N43' H43 G43 (fits_nar_char _) W43 1 rfl (Nat.le_of_ble_eq_true rfl)
            refine own_st st43 ?_
            have Sw43 := (Safe.arv (EL := consts_1) hZ.alike Vja (by decide))
            have B43 := own_Bk.wr W43 Sw43 Bja
            have N43 := Fr.snoc X43 Nja g_nb1
            have K43 : Keep h0 h43 [] := Kja.wr W43 (Or.inr sz_nb1)
            show own_Go p e below _ T43 (mkF m 273 #[.val (.int mo), .val (.int po), .val (.int cc), .val (.int ls), .val (.long ch), .second, .val (.int mm), .val (.ref nb1), .val (.int nn), .unset, .unset, .unset, .unset] [])
            exact J273 x0 (nar .char ((cc &&& (255 : Int32)).toUInt32.toUInt16.toUInt32.toInt32)) x2 x3 x4 x5 x6 x7 nn _ _ _ X43 e43 N43 K43 B43 V43 ⟨hL0, (own_i2cLN _), hL2, hL3, hL4, hL5, hL6, hL7⟩ h9j
          · show own_Go p e below _ Tja (mkF m 266 #[.val (.int mo), .val (.int po), .val (.int cc), .val (.int ls), .val (.long ch), .second, .val (.int mm), .val (.ref nb1), .val (.int nn), .unset, .unset, .unset, .unset] [(.int (2 : Int32)), (.ref nb1)])
            refine own_st (fun t_ k_ => XS.iloadN Xja.here hx rfl (hb hby at_266) rfl k_) ?_
            show own_Go p e below _ Tja (mkF m 267 #[.val (.int mo), .val (.int po), .val (.int cc), .val (.int ls), .val (.long ch), .second, .val (.int mm), .val (.ref nb1), .val (.int nn), .unset, .unset, .unset, .unset] [(.int cc), (.int (2 : Int32)), (.ref nb1)])
            refine own_st (fun t_ k_ => XS.sipush Xja.here hx rfl (hb hby at_267) k_) ?_
            show own_Go p e below _ Tja (mkF m 270 #[.val (.int mo), .val (.int po), .val (.int cc), .val (.int ls), .val (.long ch), .second, .val (.int mm), .val (.ref nb1), .val (.int nn), .unset, .unset, .unset, .unset] [(.int (255 : Int32)), (.int cc), (.int (2 : Int32)), (.ref nb1)])
            refine own_st (fun t_ k_ => XS.iand Xja.here hx rfl (hb hby at_270) rfl k_) ?_
            show own_Go p e below _ Tja (mkF m 271 #[.val (.int mo), .val (.int po), .val (.int cc), .val (.int ls), .val (.long ch), .second, .val (.int mm), .val (.ref nb1), .val (.int nn), .unset, .unset, .unset, .unset] [(.int (cc &&& (255 : Int32))), (.int (2 : Int32)), (.ref nb1)])
            refine own_st (fun t_ k_ => XS.i2c Xja.here hx rfl (hb hby at_271) rfl k_) ?_
            show own_Go p e below _ Tja (mkF m 272 #[.val (.int mo), .val (.int po), .val (.int cc), .val (.int ls), .val (.long ch), .second, .val (.int mm), .val (.ref nb1), .val (.int nn), .unset, .unset, .unset, .unset] [(.int ((cc &&& (255 : Int32)).toUInt32.toUInt16.toUInt32.toInt32)), (.int (2 : Int32)), (.ref nb1)])
            obtain ⟨cl44, Ar44, q44, S44, N44', H44, G44⟩ := id Vja
            have hin44 : ¬ ((2 : Int32) < 0 ∨ cl44.slots.size ≤ ((2 : Int32)).toNatClampNeg) := inb_of S44 ⟨by decide, by decide⟩
            obtain ⟨T44, h44, X44, e44, W44, st44⟩ := stC Xja hx hZ eja Ar44 (j := (2 : Int32)) hin44 (g := (mkF m 272 #[.val (.int mo), .val (.int po), .val (.int cc), .val (.int ls), .val (.long ch), .second, .val (.int mm), .val (.ref nb1), .val (.int nn), .unset, .unset, .unset, .unset] [(.int ((cc &&& (255 : Int32)).toUInt32.toUInt16.toUInt32.toInt32)), (.int (2 : Int32)), (.ref nb1)])) rfl rfl (hb hby at_272)
            have V44 : Arv Z h44 nb1 k1 .char (8 : Int32) [(.int x0), (.int x1), (.int (nar .char ((cc &&& (255 : Int32)).toUInt32.toUInt16.toUInt32.toInt32))), (.int x3), (.int x4), (.int x5), (.int x6), (.int x7)] (.int (0 : Int32)) := Arv.set Ar44 q44 S44 N44' H44 G44 (fits_nar_char _) W44 2 rfl (Nat.le_of_ble_eq_true rfl)
            refine own_st st44 ?_
            have Sw44 := (Safe.arv (EL := consts_1) hZ.alike Vja (by decide))
            have B44 := own_Bk.wr W44 Sw44 Bja
            have N44 := Fr.snoc X44 Nja g_nb1
            have K44 : Keep h0 h44 [] := Kja.wr W44 (Or.inr sz_nb1)
            show own_Go p e below _ T44 (mkF m 273 #[.val (.int mo), .val (.int po), .val (.int cc), .val (.int ls), .val (.long ch), .second, .val (.int mm), .val (.ref nb1), .val (.int nn), .unset, .unset, .unset, .unset] [])
            exact J273 x0 x1 (nar .char ((cc &&& (255 : Int32)).toUInt32.toUInt16.toUInt32.toInt32)) x3 x4 x5 x6 x7 nn _ _ _ X44 e44 N44 K44 B44 V44 ⟨hL0, hL1, (own_i2cLN _), hL3, hL4, hL5, hL6, hL7⟩ h9j
          · show own_Go p e below _ Tja (mkF m 266 #[.val (.int mo), .val (.int po), .val (.int cc), .val (.int ls), .val (.long ch), .second, .val (.int mm), .val (.ref nb1), .val (.int nn), .unset, .unset, .unset, .unset] [(.int (3 : Int32)), (.ref nb1)])
            refine own_st (fun t_ k_ => XS.iloadN Xja.here hx rfl (hb hby at_266) rfl k_) ?_
            show own_Go p e below _ Tja (mkF m 267 #[.val (.int mo), .val (.int po), .val (.int cc), .val (.int ls), .val (.long ch), .second, .val (.int mm), .val (.ref nb1), .val (.int nn), .unset, .unset, .unset, .unset] [(.int cc), (.int (3 : Int32)), (.ref nb1)])
            refine own_st (fun t_ k_ => XS.sipush Xja.here hx rfl (hb hby at_267) k_) ?_
            show own_Go p e below _ Tja (mkF m 270 #[.val (.int mo), .val (.int po), .val (.int cc), .val (.int ls), .val (.long ch), .second, .val (.int mm), .val (.ref nb1), .val (.int nn), .unset, .unset, .unset, .unset] [(.int (255 : Int32)), (.int cc), (.int (3 : Int32)), (.ref nb1)])
            refine own_st (fun t_ k_ => XS.iand Xja.here hx rfl (hb hby at_270) rfl k_) ?_
            show own_Go p e below _ Tja (mkF m 271 #[.val (.int mo), .val (.int po), .val (.int cc), .val (.int ls), .val (.long ch), .second, .val (.int mm), .val (.ref nb1), .val (.int nn), .unset, .unset, .unset, .unset] [(.int (cc &&& (255 : Int32))), (.int (3 : Int32)), (.ref nb1)])
            refine own_st (fun t_ k_ => XS.i2c Xja.here hx rfl (hb hby at_271) rfl k_) ?_
            show own_Go p e below _ Tja (mkF m 272 #[.val (.int mo), .val (.int po), .val (.int cc), .val (.int ls), .val (.long ch), .second, .val (.int mm), .val (.ref nb1), .val (.int nn), .unset, .unset, .unset, .unset] [(.int ((cc &&& (255 : Int32)).toUInt32.toUInt16.toUInt32.toInt32)), (.int (3 : Int32)), (.ref nb1)])
            obtain ⟨cl45, Ar45, q45, S45, N45', H45, G45⟩ := id Vja
            have hin45 : ¬ ((3 : Int32) < 0 ∨ cl45.slots.size ≤ ((3 : Int32)).toNatClampNeg) := inb_of S45 ⟨by decide, by decide⟩
            obtain ⟨T45, h45, X45, e45, W45, st45⟩ := stC Xja hx hZ eja Ar45 (j := (3 : Int32)) hin45 (g := (mkF m 272 #[.val (.int mo), .val (.int po), .val (.int cc), .val (.int ls), .val (.long ch), .second, .val (.int mm), .val (.ref nb1), .val (.int nn), .unset, .unset, .unset, .unset] [(.int ((cc &&& (255 : Int32)).toUInt32.toUInt16.toUInt32.toInt32)), (.int (3 : Int32)), (.ref nb1)])) rfl rfl (hb hby at_272)
            have V45 : Arv Z h45 nb1 k1 .char (8 : Int32) [(.int x0), (.int x1), (.int x2), (.int (nar .char ((cc &&& (255 : Int32)).toUInt32.toUInt16.toUInt32.toInt32))), (.int x4), (.int x5), (.int x6), (.int x7)] (.int (0 : Int32)) := Arv.set Ar45 q45 S45 N45' H45 G45 (fits_nar_char _) W45 3 rfl (Nat.le_of_ble_eq_true rfl)
            refine own_st st45 ?_
            have Sw45 := (Safe.arv (EL := consts_1) hZ.alike Vja (by decide))
            have B45 := own_Bk.wr W45 Sw45 Bja
            have N45 := Fr.snoc X45 Nja g_nb1
            have K45 : Keep h0 h45 [] := Kja.wr W45 (Or.inr sz_nb1)
            show own_Go p e below _ T45 (mkF m 273 #[.val (.int mo), .val (.int po), .val (.int cc), .val (.int ls), .val (.long ch), .second, .val (.int mm), .val (.ref nb1), .val (.int nn), .unset, .unset, .unset, .unset] [])
            exact J273 x0 x1 x2 (nar .char ((cc &&& (255 : Int32)).toUInt32.toUInt16.toUInt32.toInt32)) x4 x5 x6 x7 nn _ _ _ X45 e45 N45 K45 B45 V45 ⟨hL0, hL1, hL2, (own_i2cLN _), hL4, hL5, hL6, hL7⟩ h9j
          · show own_Go p e below _ Tja (mkF m 266 #[.val (.int mo), .val (.int po), .val (.int cc), .val (.int ls), .val (.long ch), .second, .val (.int mm), .val (.ref nb1), .val (.int nn), .unset, .unset, .unset, .unset] [(.int (4 : Int32)), (.ref nb1)])
            refine own_st (fun t_ k_ => XS.iloadN Xja.here hx rfl (hb hby at_266) rfl k_) ?_
            show own_Go p e below _ Tja (mkF m 267 #[.val (.int mo), .val (.int po), .val (.int cc), .val (.int ls), .val (.long ch), .second, .val (.int mm), .val (.ref nb1), .val (.int nn), .unset, .unset, .unset, .unset] [(.int cc), (.int (4 : Int32)), (.ref nb1)])
            refine own_st (fun t_ k_ => XS.sipush Xja.here hx rfl (hb hby at_267) k_) ?_
            show own_Go p e below _ Tja (mkF m 270 #[.val (.int mo), .val (.int po), .val (.int cc), .val (.int ls), .val (.long ch), .second, .val (.int mm), .val (.ref nb1), .val (.int nn), .unset, .unset, .unset, .unset] [(.int (255 : Int32)), (.int cc), (.int (4 : Int32)), (.ref nb1)])
            refine own_st (fun t_ k_ => XS.iand Xja.here hx rfl (hb hby at_270) rfl k_) ?_
            show own_Go p e below _ Tja (mkF m 271 #[.val (.int mo), .val (.int po), .val (.int cc), .val (.int ls), .val (.long ch), .second, .val (.int mm), .val (.ref nb1), .val (.int nn), .unset, .unset, .unset, .unset] [(.int (cc &&& (255 : Int32))), (.int (4 : Int32)), (.ref nb1)])
            refine own_st (fun t_ k_ => XS.i2c Xja.here hx rfl (hb hby at_271) rfl k_) ?_
            show own_Go p e below _ Tja (mkF m 272 #[.val (.int mo), .val (.int po), .val (.int cc), .val (.int ls), .val (.long ch), .second, .val (.int mm), .val (.ref nb1), .val (.int nn), .unset, .unset, .unset, .unset] [(.int ((cc &&& (255 : Int32)).toUInt32.toUInt16.toUInt32.toInt32)), (.int (4 : Int32)), (.ref nb1)])
            obtain ⟨cl46, Ar46, q46, S46, N46', H46, G46⟩ := id Vja
            have hin46 : ¬ ((4 : Int32) < 0 ∨ cl46.slots.size ≤ ((4 : Int32)).toNatClampNeg) := inb_of S46 ⟨by decide, by decide⟩
            obtain ⟨T46, h46, X46, e46, W46, st46⟩ := stC Xja hx hZ eja Ar46 (j := (4 : Int32)) hin46 (g := (mkF m 272 #[.val (.int mo), .val (.int po), .val (.int cc), .val (.int ls), .val (.long ch), .second, .val (.int mm), .val (.ref nb1), .val (.int nn), .unset, .unset, .unset, .unset] [(.int ((cc &&& (255 : Int32)).toUInt32.toUInt16.toUInt32.toInt32)), (.int (4 : Int32)), (.ref nb1)])) rfl rfl (hb hby at_272)
            have V46 : Arv Z h46 nb1 k1 .char (8 : Int32) [(.int x0), (.int x1), (.int x2), (.int x3), (.int (nar .char ((cc &&& (255 : Int32)).toUInt32.toUInt16.toUInt32.toInt32))), (.int x5), (.int x6), (.int x7)] (.int (0 : Int32)) := Arv.set Ar46 q46 S46 N46' H46 G46 (fits_nar_char _) W46 4 rfl (Nat.le_of_ble_eq_true rfl)
            refine own_st st46 ?_
            have Sw46 := (Safe.arv (EL := consts_1) hZ.alike Vja (by decide))
            have B46 := own_Bk.wr W46 Sw46 Bja
            have N46 := Fr.snoc X46 Nja g_nb1
            have K46 : Keep h0 h46 [] := Kja.wr W46 (Or.inr sz_nb1)
            show own_Go p e below _ T46 (mkF m 273 #[.val (.int mo), .val (.int po), .val (.int cc), .val (.int ls), .val (.long ch), .second, .val (.int mm), .val (.ref nb1), .val (.int nn), .unset, .unset, .unset, .unset] [])
            exact J273 x0 x1 x2 x3 (nar .char ((cc &&& (255 : Int32)).toUInt32.toUInt16.toUInt32.toInt32)) x5 x6 x7 nn _ _ _ X46 e46 N46 K46 B46 V46 ⟨hL0, hL1, hL2, hL3, (own_i2cLN _), hL5, hL6, hL7⟩ h9j
          · show own_Go p e below _ Tja (mkF m 266 #[.val (.int mo), .val (.int po), .val (.int cc), .val (.int ls), .val (.long ch), .second, .val (.int mm), .val (.ref nb1), .val (.int nn), .unset, .unset, .unset, .unset] [(.int (5 : Int32)), (.ref nb1)])
            refine own_st (fun t_ k_ => XS.iloadN Xja.here hx rfl (hb hby at_266) rfl k_) ?_
            show own_Go p e below _ Tja (mkF m 267 #[.val (.int mo), .val (.int po), .val (.int cc), .val (.int ls), .val (.long ch), .second, .val (.int mm), .val (.ref nb1), .val (.int nn), .unset, .unset, .unset, .unset] [(.int cc), (.int (5 : Int32)), (.ref nb1)])
            refine own_st (fun t_ k_ => XS.sipush Xja.here hx rfl (hb hby at_267) k_) ?_
            show own_Go p e below _ Tja (mkF m 270 #[.val (.int mo), .val (.int po), .val (.int cc), .val (.int ls), .val (.long ch), .second, .val (.int mm), .val (.ref nb1), .val (.int nn), .unset, .unset, .unset, .unset] [(.int (255 : Int32)), (.int cc), (.int (5 : Int32)), (.ref nb1)])
            refine own_st (fun t_ k_ => XS.iand Xja.here hx rfl (hb hby at_270) rfl k_) ?_
            show own_Go p e below _ Tja (mkF m 271 #[.val (.int mo), .val (.int po), .val (.int cc), .val (.int ls), .val (.long ch), .second, .val (.int mm), .val (.ref nb1), .val (.int nn), .unset, .unset, .unset, .unset] [(.int (cc &&& (255 : Int32))), (.int (5 : Int32)), (.ref nb1)])
            refine own_st (fun t_ k_ => XS.i2c Xja.here hx rfl (hb hby at_271) rfl k_) ?_
            show own_Go p e below _ Tja (mkF m 272 #[.val (.int mo), .val (.int po), .val (.int cc), .val (.int ls), .val (.long ch), .second, .val (.int mm), .val (.ref nb1), .val (.int nn), .unset, .unset, .unset, .unset] [(.int ((cc &&& (255 : Int32)).toUInt32.toUInt16.toUInt32.toInt32)), (.int (5 : Int32)), (.ref nb1)])
            obtain ⟨cl47, Ar47, q47, S47, N47', H47, G47⟩ := id Vja
            have hin47 : ¬ ((5 : Int32) < 0 ∨ cl47.slots.size ≤ ((5 : Int32)).toNatClampNeg) := inb_of S47 ⟨by decide, by decide⟩
            obtain ⟨T47, h47, X47, e47, W47, st47⟩ := stC Xja hx hZ eja Ar47 (j := (5 : Int32)) hin47 (g := (mkF m 272 #[.val (.int mo), .val (.int po), .val (.int cc), .val (.int ls), .val (.long ch), .second, .val (.int mm), .val (.ref nb1), .val (.int nn), .unset, .unset, .unset, .unset] [(.int ((cc &&& (255 : Int32)).toUInt32.toUInt16.toUInt32.toInt32)), (.int (5 : Int32)), (.ref nb1)])) rfl rfl (hb hby at_272)
            have V47 : Arv Z h47 nb1 k1 .char (8 : Int32) [(.int x0), (.int x1), (.int x2), (.int x3), (.int x4), (.int (nar .char ((cc &&& (255 : Int32)).toUInt32.toUInt16.toUInt32.toInt32))), (.int x6), (.int x7)] (.int (0 : Int32)) := Arv.set Ar47 q47 S47 N47' H47 G47 (fits_nar_char _) W47 5 rfl (Nat.le_of_ble_eq_true rfl)
            refine own_st st47 ?_
            have Sw47 := (Safe.arv (EL := consts_1) hZ.alike Vja (by decide))
            have B47 := own_Bk.wr W47 Sw47 Bja
            have N47 := Fr.snoc X47 Nja g_nb1
            have K47 : Keep h0 h47 [] := Kja.wr W47 (Or.inr sz_nb1)
            show own_Go p e below _ T47 (mkF m 273 #[.val (.int mo), .val (.int po), .val (.int cc), .val (.int ls), .val (.long ch), .second, .val (.int mm), .val (.ref nb1), .val (.int nn), .unset, .unset, .unset, .unset] [])
            exact J273 x0 x1 x2 x3 x4 (nar .char ((cc &&& (255 : Int32)).toUInt32.toUInt16.toUInt32.toInt32)) x6 x7 nn _ _ _ X47 e47 N47 K47 B47 V47 ⟨hL0, hL1, hL2, hL3, hL4, (own_i2cLN _), hL6, hL7⟩ h9j
          · show own_Go p e below _ Tja (mkF m 266 #[.val (.int mo), .val (.int po), .val (.int cc), .val (.int ls), .val (.long ch), .second, .val (.int mm), .val (.ref nb1), .val (.int nn), .unset, .unset, .unset, .unset] [(.int (6 : Int32)), (.ref nb1)])
            refine own_st (fun t_ k_ => XS.iloadN Xja.here hx rfl (hb hby at_266) rfl k_) ?_
            show own_Go p e below _ Tja (mkF m 267 #[.val (.int mo), .val (.int po), .val (.int cc), .val (.int ls), .val (.long ch), .second, .val (.int mm), .val (.ref nb1), .val (.int nn), .unset, .unset, .unset, .unset] [(.int cc), (.int (6 : Int32)), (.ref nb1)])
            refine own_st (fun t_ k_ => XS.sipush Xja.here hx rfl (hb hby at_267) k_) ?_
            show own_Go p e below _ Tja (mkF m 270 #[.val (.int mo), .val (.int po), .val (.int cc), .val (.int ls), .val (.long ch), .second, .val (.int mm), .val (.ref nb1), .val (.int nn), .unset, .unset, .unset, .unset] [(.int (255 : Int32)), (.int cc), (.int (6 : Int32)), (.ref nb1)])
            refine own_st (fun t_ k_ => XS.iand Xja.here hx rfl (hb hby at_270) rfl k_) ?_
            show own_Go p e below _ Tja (mkF m 271 #[.val (.int mo), .val (.int po), .val (.int cc), .val (.int ls), .val (.long ch), .second, .val (.int mm), .val (.ref nb1), .val (.int nn), .unset, .unset, .unset, .unset] [(.int (cc &&& (255 : Int32))), (.int (6 : Int32)), (.ref nb1)])
            refine own_st (fun t_ k_ => XS.i2c Xja.here hx rfl (hb hby at_271) rfl k_) ?_
            show own_Go p e below _ Tja (mkF m 272 #[.val (.int mo), .val (.int po), .val (.int cc), .val (.int ls), .val (.long ch), .second, .val (.int mm), .val (.ref nb1), .val (.int nn), .unset, .unset, .unset, .unset] [(.int ((cc &&& (255 : Int32)).toUInt32.toUInt16.toUInt32.toInt32)), (.int (6 : Int32)), (.ref nb1)])
            obtain ⟨cl48, Ar48, q48, S48, N48', H48, G48⟩ := id Vja
            have hin48 : ¬ ((6 : Int32) < 0 ∨ cl48.slots.size ≤ ((6 : Int32)).toNatClampNeg) := inb_of S48 ⟨by decide, by decide⟩
            obtain ⟨T48, h48, X48, e48, W48, st48⟩ := stC Xja hx hZ eja Ar48 (j := (6 : Int32)) hin48 (g := (mkF m 272 #[.val (.int mo), .val (.int po), .val (.int cc), .val (.int ls), .val (.long ch), .second, .val (.int mm), .val (.ref nb1), .val (.int nn), .unset, .unset, .unset, .unset] [(.int ((cc &&& (255 : Int32)).toUInt32.toUInt16.toUInt32.toInt32)), (.int (6 : Int32)), (.ref nb1)])) rfl rfl (hb hby at_272)
            have V48 : Arv Z h48 nb1 k1 .char (8 : Int32) [(.int x0), (.int x1), (.int x2), (.int x3), (.int x4), (.int x5), (.int (nar .char ((cc &&& (255 : Int32)).toUInt32.toUInt16.toUInt32.toInt32))), (.int x7)] (.int (0 : Int32)) := Arv.set Ar48 q48 S48 N48' H48 G48 (fits_nar_char _) W48 6 rfl (Nat.le_of_ble_eq_true rfl)
            refine own_st st48 ?_
            have Sw48 := (Safe.arv (EL := consts_1) hZ.alike Vja (by decide))
            have B48 := own_Bk.wr W48 Sw48 Bja
            have N48 := Fr.snoc X48 Nja g_nb1
            have K48 : Keep h0 h48 [] := Kja.wr W48 (Or.inr sz_nb1)
            show own_Go p e below _ T48 (mkF m 273 #[.val (.int mo), .val (.int po), .val (.int cc), .val (.int ls), .val (.long ch), .second, .val (.int mm), .val (.ref nb1), .val (.int nn), .unset, .unset, .unset, .unset] [])
            exact J273 x0 x1 x2 x3 x4 x5 (nar .char ((cc &&& (255 : Int32)).toUInt32.toUInt16.toUInt32.toInt32)) x7 nn _ _ _ X48 e48 N48 K48 B48 V48 ⟨hL0, hL1, hL2, hL3, hL4, hL5, (own_i2cLN _), hL7⟩ h9j
          · show own_Go p e below _ Tja (mkF m 266 #[.val (.int mo), .val (.int po), .val (.int cc), .val (.int ls), .val (.long ch), .second, .val (.int mm), .val (.ref nb1), .val (.int nn), .unset, .unset, .unset, .unset] [(.int (7 : Int32)), (.ref nb1)])
            refine own_st (fun t_ k_ => XS.iloadN Xja.here hx rfl (hb hby at_266) rfl k_) ?_
            show own_Go p e below _ Tja (mkF m 267 #[.val (.int mo), .val (.int po), .val (.int cc), .val (.int ls), .val (.long ch), .second, .val (.int mm), .val (.ref nb1), .val (.int nn), .unset, .unset, .unset, .unset] [(.int cc), (.int (7 : Int32)), (.ref nb1)])
            refine own_st (fun t_ k_ => XS.sipush Xja.here hx rfl (hb hby at_267) k_) ?_
            show own_Go p e below _ Tja (mkF m 270 #[.val (.int mo), .val (.int po), .val (.int cc), .val (.int ls), .val (.long ch), .second, .val (.int mm), .val (.ref nb1), .val (.int nn), .unset, .unset, .unset, .unset] [(.int (255 : Int32)), (.int cc), (.int (7 : Int32)), (.ref nb1)])
            refine own_st (fun t_ k_ => XS.iand Xja.here hx rfl (hb hby at_270) rfl k_) ?_
            show own_Go p e below _ Tja (mkF m 271 #[.val (.int mo), .val (.int po), .val (.int cc), .val (.int ls), .val (.long ch), .second, .val (.int mm), .val (.ref nb1), .val (.int nn), .unset, .unset, .unset, .unset] [(.int (cc &&& (255 : Int32))), (.int (7 : Int32)), (.ref nb1)])
            refine own_st (fun t_ k_ => XS.i2c Xja.here hx rfl (hb hby at_271) rfl k_) ?_
            show own_Go p e below _ Tja (mkF m 272 #[.val (.int mo), .val (.int po), .val (.int cc), .val (.int ls), .val (.long ch), .second, .val (.int mm), .val (.ref nb1), .val (.int nn), .unset, .unset, .unset, .unset] [(.int ((cc &&& (255 : Int32)).toUInt32.toUInt16.toUInt32.toInt32)), (.int (7 : Int32)), (.ref nb1)])
            obtain ⟨cl49, Ar49, q49, S49, N49', H49, G49⟩ := id Vja
            have hin49 : ¬ ((7 : Int32) < 0 ∨ cl49.slots.size ≤ ((7 : Int32)).toNatClampNeg) := inb_of S49 ⟨by decide, by decide⟩
            obtain ⟨T49, h49, X49, e49, W49, st49⟩ := stC Xja hx hZ eja Ar49 (j := (7 : Int32)) hin49 (g := (mkF m 272 #[.val (.int mo), .val (.int po), .val (.int cc), .val (.int ls), .val (.long ch), .second, .val (.int mm), .val (.ref nb1), .val (.int nn), .unset, .unset, .unset, .unset] [(.int ((cc &&& (255 : Int32)).toUInt32.toUInt16.toUInt32.toInt32)), (.int (7 : Int32)), (.ref nb1)])) rfl rfl (hb hby at_272)
            have V49 : Arv Z h49 nb1 k1 .char (8 : Int32) [(.int x0), (.int x1), (.int x2), (.int x3), (.int x4), (.int x5), (.int x6), (.int (nar .char ((cc &&& (255 : Int32)).toUInt32.toUInt16.toUInt32.toInt32)))] (.int (0 : Int32)) := Arv.set Ar49 q49 S49 N49' H49 G49 (fits_nar_char _) W49 7 rfl (Nat.le_of_ble_eq_true rfl)
            refine own_st st49 ?_
            have Sw49 := (Safe.arv (EL := consts_1) hZ.alike Vja (by decide))
            have B49 := own_Bk.wr W49 Sw49 Bja
            have N49 := Fr.snoc X49 Nja g_nb1
            have K49 : Keep h0 h49 [] := Kja.wr W49 (Or.inr sz_nb1)
            show own_Go p e below _ T49 (mkF m 273 #[.val (.int mo), .val (.int po), .val (.int cc), .val (.int ls), .val (.long ch), .second, .val (.int mm), .val (.ref nb1), .val (.int nn), .unset, .unset, .unset, .unset] [])
            exact J273 x0 x1 x2 x3 x4 x5 x6 (nar .char ((cc &&& (255 : Int32)).toUInt32.toUInt16.toUInt32.toInt32)) nn _ _ _ X49 e49 N49 K49 B49 V49 ⟨hL0, hL1, hL2, hL3, hL4, hL5, hL6, (own_i2cLN _)⟩ h9j
      · refine own_st (fun t_ k_ => XS.ifNo Xja.here hx rfl (hb hby at_239) rfl ((if0 _ _).trans (feq hc239_40).1) k_) ?_
        show own_Go p e below _ Tja (mkF m 242 #[.val (.int mo), .val (.int po), .val (.int cc), .val (.int ls), .val (.long ch), .second, .val (.int mm), .val (.ref nb1), .val (.int nn), .unset, .unset, .unset, .unset] [])
        refine own_st (fun t_ k_ => XS.iloadN Xja.here hx rfl (hb hby at_242) rfl k_) ?_
        show own_Go p e below _ Tja (mkF m 243 #[.val (.int mo), .val (.int po), .val (.int cc), .val (.int ls), .val (.long ch), .second, .val (.int mm), .val (.ref nb1), .val (.int nn), .unset, .unset, .unset, .unset] [(.int ls)])
        refine own_st (fun t_ k_ => XS.bipush Xja.here hx rfl (hb hby at_243) k_) ?_
        show own_Go p e below _ Tja (mkF m 245 #[.val (.int mo), .val (.int po), .val (.int cc), .val (.int ls), .val (.long ch), .second, .val (.int mm), .val (.ref nb1), .val (.int nn), .unset, .unset, .unset, .unset] [(.int (15 : Int32)), (.int ls)])
        refine own_st (fun t_ k_ => XS.iand Xja.here hx rfl (hb hby at_245) rfl k_) ?_
        show own_Go p e below _ Tja (mkF m 246 #[.val (.int mo), .val (.int po), .val (.int cc), .val (.int ls), .val (.long ch), .second, .val (.int mm), .val (.ref nb1), .val (.int nn), .unset, .unset, .unset, .unset] [(.int (ls &&& (15 : Int32)))])
        refine own_st (fun t_ k_ => XS.bipush Xja.here hx rfl (hb hby at_246) k_) ?_
        show own_Go p e below _ Tja (mkF m 248 #[.val (.int mo), .val (.int po), .val (.int cc), .val (.int ls), .val (.long ch), .second, .val (.int mm), .val (.ref nb1), .val (.int nn), .unset, .unset, .unset, .unset] [(.int (8 : Int32)), (.int (ls &&& (15 : Int32)))])
        refine own_callS Xja hx (y := (⟨"java/lang/Math", "min", "(II)I"⟩ : MethodName)) hown (mvT hZ (hw _ (List.mem_of_getElem? (i := 98) rfl))) (mvT hZ (hw _ (List.mem_of_getElem? (i := 99) rfl))) (mvT hZ (hw _ (List.mem_of_getElem? (i := 100) rfl))) (mvT hZ (hw _ (List.mem_of_getElem? (i := 101) rfl))) (by decide) (backOf (W := 0) (rmMI l Z a0 hw [] (ls &&& (15 : Int32)) hja n0 (Nat.le_trans Z0 Kja.1) (c_and _ (15 : Int32) (by decide)).1) hZ (hw _ (List.mem_of_getElem? (i := 101) rfl)) (hw _ (List.mem_of_getElem? (i := 100) rfl)) (by decide) (by decide)) (g := (mkF m 248 #[.val (.int mo), .val (.int po), .val (.int cc), .val (.int ls), .val (.long ch), .second, .val (.int mm), .val (.ref nb1), .val (.int nn), .unset, .unset, .unset, .unset] [(.int (8 : Int32)), (.int (ls &&& (15 : Int32)))])) rfl (by rw [hml]; rfl) (argsL := [(.int (ls &&& (15 : Int32))), (.int (8 : Int32))]) (rest := []) (lenOf pd_8 rfl) rfl (by show 2 * 0 + _ ≤ _; exact Nat.le_of_eq rfl) (hb hby at_248) rfl eja (by decide) (by decide) ?_
        rintro v50 T50 L50 X50 ⟨r50, rfl, Nq50, hh50, h9_50⟩
        have N50 := Fr.app Nja Nq50
        show own_Go p e below _ T50 (mkF m 251 #[.val (.int mo), .val (.int po), .val (.int cc), .val (.int ls), .val (.long ch), .second, .val (.int mm), .val (.ref nb1), .val (.int nn), .unset, .unset, .unset, .unset] [(.int r50)])
        refine own_st (fun t_ k_ => XS.istore X50.here hx rfl (hb hby at_251) rfl (l' := #[.val (.int mo), .val (.int po), .val (.int cc), .val (.int ls), .val (.long ch), .second, .val (.int mm), .val (.ref nb1), .val (.int r50), .unset, .unset, .unset, .unset]) rfl k_) ?_
        show own_Go p e below _ T50 (mkF m 253 #[.val (.int mo), .val (.int po), .val (.int cc), .val (.int ls), .val (.long ch), .second, .val (.int mm), .val (.ref nb1), .val (.int r50), .unset, .unset, .unset, .unset] [])
        refine own_st (fun t_ k_ => XS.iloadN X50.here hx rfl (hb hby at_253) rfl k_) ?_
        show own_Go p e below _ T50 (mkF m 254 #[.val (.int mo), .val (.int po), .val (.int cc), .val (.int ls), .val (.long ch), .second, .val (.int mm), .val (.ref nb1), .val (.int r50), .unset, .unset, .unset, .unset] [(.int po)])
        refine own_st (fun t_ k_ => XS.bipush X50.here hx rfl (hb hby at_254) k_) ?_
        show own_Go p e below _ T50 (mkF m 256 #[.val (.int mo), .val (.int po), .val (.int cc), .val (.int ls), .val (.long ch), .second, .val (.int mm), .val (.ref nb1), .val (.int r50), .unset, .unset, .unset, .unset] [(.int (8 : Int32)), (.int po)])
        refine own_st (fun t_ k_ => XS.iand X50.here hx rfl (hb hby at_256) rfl k_) ?_
        show own_Go p e below _ T50 (mkF m 257 #[.val (.int mo), .val (.int po), .val (.int cc), .val (.int ls), .val (.long ch), .second, .val (.int mm), .val (.ref nb1), .val (.int r50), .unset, .unset, .unset, .unset] [(.int (po &&& (8 : Int32)))])
        by_cases hc257_51 : (po &&& (8 : Int32)) = (0 : Int32)
        · refine own_st (fun t_ k_ => XS.ifYes X50.here hx rfl (pc0 := 257) (pc' := 273) rfl (hb hby at_257) rfl ((if0 _ _).trans (teq hc257_51).1) (by decide) (by decide) k_) ?_
          show own_Go p e below _ T50 (mkF m 273 #[.val (.int mo), .val (.int po), .val (.int cc), .val (.int ls), .val (.long ch), .second, .val (.int mm), .val (.ref nb1), .val (.int r50), .unset, .unset, .unset, .unset] [])
          exact J273 x0 x1 x2 x3 x4 x5 x6 x7 r50 _ _ _ X50 hh50 N50 Kja Bja Vja ⟨hL0, hL1, hL2, hL3, hL4, hL5, hL6, hL7⟩ h9_50
        · refine own_st (fun t_ k_ => XS.ifNo X50.here hx rfl (hb hby at_257) rfl ((if0 _ _).trans (feq hc257_51).1) k_) ?_
          show own_Go p e below _ T50 (mkF m 260 #[.val (.int mo), .val (.int po), .val (.int cc), .val (.int ls), .val (.long ch), .second, .val (.int mm), .val (.ref nb1), .val (.int r50), .unset, .unset, .unset, .unset] [])
          refine own_st (fun t_ k_ => XS.aload X50.here hx rfl (hb hby at_260) rfl rfl k_) ?_
          show own_Go p e below _ T50 (mkF m 262 #[.val (.int mo), .val (.int po), .val (.int cc), .val (.int ls), .val (.long ch), .second, .val (.int mm), .val (.ref nb1), .val (.int r50), .unset, .unset, .unset, .unset] [(.ref nb1)])
          refine own_st (fun t_ k_ => XS.iloadN X50.here hx rfl (hb hby at_262) rfl k_) ?_
          show own_Go p e below _ T50 (mkF m 263 #[.val (.int mo), .val (.int po), .val (.int cc), .val (.int ls), .val (.long ch), .second, .val (.int mm), .val (.ref nb1), .val (.int r50), .unset, .unset, .unset, .unset] [(.int po), (.ref nb1)])
          refine own_st (fun t_ k_ => XS.bipush X50.here hx rfl (hb hby at_263) k_) ?_
          show own_Go p e below _ T50 (mkF m 265 #[.val (.int mo), .val (.int po), .val (.int cc), .val (.int ls), .val (.long ch), .second, .val (.int mm), .val (.ref nb1), .val (.int r50), .unset, .unset, .unset, .unset] [(.int (7 : Int32)), (.int po), (.ref nb1)])
          refine own_st (fun t_ k_ => XS.iand X50.here hx rfl (hb hby at_265) rfl k_) ?_
          show own_Go p e below _ T50 (mkF m 266 #[.val (.int mo), .val (.int po), .val (.int cc), .val (.int ls), .val (.long ch), .second, .val (.int mm), .val (.ref nb1), .val (.int r50), .unset, .unset, .unset, .unset] [(.int (po &&& (7 : Int32))), (.ref nb1)])
          have d_pz : (po &&& (7 : Int32)) = (0 : Int32) ∨ (po &&& (7 : Int32)) = (1 : Int32) ∨ (po &&& (7 : Int32)) = (2 : Int32) ∨ (po &&& (7 : Int32)) = (3 : Int32) ∨ (po &&& (7 : Int32)) = (4 : Int32) ∨ (po &&& (7 : Int32)) = (5 : Int32) ∨ (po &&& (7 : Int32)) = (6 : Int32) ∨ (po &&& (7 : Int32)) = (7 : Int32) := own_and7 _
          generalize h_pz : (po &&& (7 : Int32)) = pz at d_pz ⊢
          show own_Go p e below _ T50 (mkF m 266 #[.val (.int mo), .val (.int po), .val (.int cc), .val (.int ls), .val (.long ch), .second, .val (.int mm), .val (.ref nb1), .val (.int r50), .unset, .unset, .unset, .unset] [(.int pz), (.ref nb1)])
          rcases (d_pz : pz = (0 : Int32) ∨ pz = (1 : Int32) ∨ pz = (2 : Int32) ∨ pz = (3 : Int32) ∨ pz = (4 : Int32) ∨ pz = (5 : Int32) ∨ pz = (6 : Int32) ∨ pz = (7 : Int32)) with rfl | rfl | rfl | rfl | rfl | rfl | rfl | rfl
          · show own_Go p e below _ T50 (mkF m 266 #[.val (.int mo), .val (.int po), .val (.int cc), .val (.int ls), .val (.long ch), .second, .val (.int mm), .val (.ref nb1), .val (.int r50), .unset, .unset, .unset, .unset] [(.int (0 : Int32)), (.ref nb1)])
            refine own_st (fun t_ k_ => XS.iloadN X50.here hx rfl (hb hby at_266) rfl k_) ?_
            show own_Go p e below _ T50 (mkF m 267 #[.val (.int mo), .val (.int po), .val (.int cc), .val (.int ls), .val (.long ch), .second, .val (.int mm), .val (.ref nb1), .val (.int r50), .unset, .unset, .unset, .unset] [(.int cc), (.int (0 : Int32)), (.ref nb1)])
            refine own_st (fun t_ k_ => XS.sipush X50.here hx rfl (hb hby at_267) k_) ?_
            show own_Go p e below _ T50 (mkF m 270 #[.val (.int mo), .val (.int po), .val (.int cc), .val (.int ls), .val (.long ch), .second, .val (.int mm), .val (.ref nb1), .val (.int r50), .unset, .unset, .unset, .unset] [(.int (255 : Int32)), (.int cc), (.int (0 : Int32)), (.ref nb1)])
            refine own_st (fun t_ k_ => XS.iand X50.here hx rfl (hb hby at_270) rfl k_) ?_
            show own_Go p e below _ T50 (mkF m 271 #[.val (.int mo), .val (.int po), .val (.int cc), .val (.int ls), .val (.long ch), .second, .val (.int mm), .val (.ref nb1), .val (.int r50), .unset, .unset, .unset, .unset] [(.int (cc &&& (255 : Int32))), (.int (0 : Int32)), (.ref nb1)])
            refine own_st (fun t_ k_ => XS.i2c X50.here hx rfl (hb hby at_271) rfl k_) ?_
            show own_Go p e below _ T50 (mkF m 272 #[.val (.int mo), .val (.int po), .val (.int cc), .val (.int ls), .val (.long ch), .second, .val (.int mm), .val (.ref nb1), .val (.int r50), .unset, .unset, .unset, .unset] [(.int ((cc &&& (255 : Int32)).toUInt32.toUInt16.toUInt32.toInt32)), (.int (0 : Int32)), (.ref nb1)])
            obtain ⟨cl52, Ar52, q52, S52, N52', H52, G52⟩ := id Vja
            have hin52 : ¬ ((0 : Int32) < 0 ∨ cl52.slots.size ≤ ((0 : Int32)).toNatClampNeg) := inb_of S52 ⟨by decide, by decide⟩
            obtain ⟨T52, h52, X52, e52, W52, st52⟩ := stC X50 hx hZ hh50 Ar52 (j := (0 : Int32)) hin52 (g := (mkF m 272 #[.val (.int mo), .val (.int po), .val (.int cc), .val (.int ls), .val (.long ch), .second, .val (.int mm), .val (.ref nb1), .val (.int r50), .unset, .unset, .unset, .unset] [(.int ((cc &&& (255 : Int32)).toUInt32.toUInt16.toUInt32.toInt32)), (.int (0 : Int32)), (.ref nb1)])) rfl rfl (hb hby at_272)
            have V52 : Arv Z h52 nb1 k1 .char (8 : Int32) [(.int (nar .char ((cc &&& (255 : Int32)).toUInt32.toUInt16.toUInt32.toInt32))), (.int x1), (.int x2), (.int x3), (.int x4), (.int x5), (.int x6), (.int x7)] (.int (0 : Int32)) := Arv.set Ar52 q52 S52 N52' H52 G52 (fits_nar_char _) W52 0 rfl (Nat.le_of_ble_eq_true rfl)
            refine own_st st52 ?_
            have Sw52 := (Safe.arv (EL := consts_1) hZ.alike Vja (by decide))
            have B52 := own_Bk.wr W52 Sw52 Bja
            have N52 := Fr.snoc X52 N50 g_nb1
            have K52 : Keep h0 h52 [] := Kja.wr W52 (Or.inr sz_nb1)
            show own_Go p e below _ T52 (mkF m 273 #[.val (.int mo), .val (.int po), .val (.int cc), .val (.int ls), .val (.long ch), .second, .val (.int mm), .val (.ref nb1), .val (.int r50), .unset, .unset, .unset, .unset] [])
            exact J273 (nar .char ((cc &&& (255 : Int32)).toUInt32.toUInt16.toUInt32.toInt32)) x1 x2 x3 x4 x5 x6 x7 r50 _ _ _ X52 e52 N52 K52 B52 V52 ⟨(own_i2cLN _), hL1, hL2, hL3, hL4, hL5, hL6, hL7⟩ h9_50
          · show own_Go p e below _ T50 (mkF m 266 #[.val (.int mo), .val (.int po), .val (.int cc), .val (.int ls), .val (.long ch), .second, .val (.int mm), .val (.ref nb1), .val (.int r50), .unset, .unset, .unset, .unset] [(.int (1 : Int32)), (.ref nb1)])
            refine own_st (fun t_ k_ => XS.iloadN X50.here hx rfl (hb hby at_266) rfl k_) ?_
            show own_Go p e below _ T50 (mkF m 267 #[.val (.int mo), .val (.int po), .val (.int cc), .val (.int ls), .val (.long ch), .second, .val (.int mm), .val (.ref nb1), .val (.int r50), .unset, .unset, .unset, .unset] [(.int cc), (.int (1 : Int32)), (.ref nb1)])
            refine own_st (fun t_ k_ => XS.sipush X50.here hx rfl (hb hby at_267) k_) ?_
            show own_Go p e below _ T50 (mkF m 270 #[.val (.int mo), .val (.int po), .val (.int cc), .val (.int ls), .val (.long ch), .second, .val (.int mm), .val (.ref nb1), .val (.int r50), .unset, .unset, .unset, .unset] [(.int (255 : Int32)), (.int cc), (.int (1 : Int32)), (.ref nb1)])
            refine own_st (fun t_ k_ => XS.iand X50.here hx rfl (hb hby at_270) rfl k_) ?_
            show own_Go p e below _ T50 (mkF m 271 #[.val (.int mo), .val (.int po), .val (.int cc), .val (.int ls), .val (.long ch), .second, .val (.int mm), .val (.ref nb1), .val (.int r50), .unset, .unset, .unset, .unset] [(.int (cc &&& (255 : Int32))), (.int (1 : Int32)), (.ref nb1)])
            refine own_st (fun t_ k_ => XS.i2c X50.here hx rfl (hb hby at_271) rfl k_) ?_
            show own_Go p e below _ T50 (mkF m 272 #[.val (.int mo), .val (.int po), .val (.int cc), .val (.int ls), .val (.long ch), .second, .val (.int mm), .val (.ref nb1), .val (.int r50), .unset, .unset, .unset, .unset] [(.int ((cc &&& (255 : Int32)).toUInt32.toUInt16.toUInt32.toInt32)), (.int (1 : Int32)), (.ref nb1)])
            obtain ⟨cl53, Ar53, q53, S53, N53', H53, G53⟩ := id Vja
            have hin53 : ¬ ((1 : Int32) < 0 ∨ cl53.slots.size ≤ ((1 : Int32)).toNatClampNeg) := inb_of S53 ⟨by decide, by decide⟩
            obtain ⟨T53, h53, X53, e53, W53, st53⟩ := stC X50 hx hZ hh50 Ar53 (j := (1 : Int32)) hin53 (g := (mkF m 272 #[.val (.int mo), .val (.int po), .val (.int cc), .val (.int ls), .val (.long ch), .second, .val (.int mm), .val (.ref nb1), .val (.int r50), .unset, .unset, .unset, .unset] [(.int ((cc &&& (255 : Int32)).toUInt32.toUInt16.toUInt32.toInt32)), (.int (1 : Int32)), (.ref nb1)])) rfl rfl (hb hby at_272)
            have V53 : Arv Z h53 nb1 k1 .char (8 : Int32) [(.int x0), (.int (nar .char ((cc &&& (255 : Int32)).toUInt32.toUInt16.toUInt32.toInt32))), (.int x2), (.int x3), (.int x4), (.int x5), (.int x6), (.int x7)] (.int (0 : Int32)) := Arv.set Ar53 q53 S53 N53' H53 G53 (fits_nar_char _) W53 1 rfl (Nat.le_of_ble_eq_true rfl)
            refine own_st st53 ?_
            have Sw53 := (Safe.arv (EL := consts_1) hZ.alike Vja (by decide))
            have B53 := own_Bk.wr W53 Sw53 Bja
            have N53 := Fr.snoc X53 N50 g_nb1
            have K53 : Keep h0 h53 [] := Kja.wr W53 (Or.inr sz_nb1)
            show own_Go p e below _ T53 (mkF m 273 #[.val (.int mo), .val (.int po), .val (.int cc), .val (.int ls), .val (.long ch), .second, .val (.int mm), .val (.ref nb1), .val (.int r50), .unset, .unset, .unset, .unset] [])
            exact J273 x0 (nar .char ((cc &&& (255 : Int32)).toUInt32.toUInt16.toUInt32.toInt32)) x2 x3 x4 x5 x6 x7 r50 _ _ _ X53 e53 N53 K53 B53 V53 ⟨hL0, (own_i2cLN _), hL2, hL3, hL4, hL5, hL6, hL7⟩ h9_50
          · show own_Go p e below _ T50 (mkF m 266 #[.val (.int mo), .val (.int po), .val (.int cc), .val (.int ls), .val (.long ch), .second, .val (.int mm), .val (.ref nb1), .val (.int r50), .unset, .unset, .unset, .unset] [(.int (2 : Int32)), (.ref nb1)])
            refine own_st (fun t_ k_ => XS.iloadN X50.here hx rfl (hb hby at_266) rfl k_) ?_
            show own_Go p e below _ T50 (mkF m 267 #[.val (.int mo), .val (.int po), .val (.int cc), .val (.int ls), .val (.long ch), .second, .val (.int mm), .val (.ref nb1), .val (.int r50), .unset, .unset, .unset, .unset] [(.int cc), (.int (2 : Int32)), (.ref nb1)])
            refine own_st (fun t_ k_ => XS.sipush X50.here hx rfl (hb hby at_267) k_) ?_
            show own_Go p e below _ T50 (mkF m 270 #[.val (.int mo), .val (.int po), .val (.int cc), .val (.int ls), .val (.long ch), .second, .val (.int mm), .val (.ref nb1), .val (.int r50), .unset, .unset, .unset, .unset] [(.int (255 : Int32)), (.int cc), (.int (2 : Int32)), (.ref nb1)])
            refine own_st (fun t_ k_ => XS.iand X50.here hx rfl (hb hby at_270) rfl k_) ?_
            show own_Go p e below _ T50 (mkF m 271 #[.val (.int mo), .val (.int po), .val (.int cc), .val (.int ls), .val (.long ch), .second, .val (.int mm), .val (.ref nb1), .val (.int r50), .unset, .unset, .unset, .unset] [(.int (cc &&& (255 : Int32))), (.int (2 : Int32)), (.ref nb1)])
            refine own_st (fun t_ k_ => XS.i2c X50.here hx rfl (hb hby at_271) rfl k_) ?_
            show own_Go p e below _ T50 (mkF m 272 #[.val (.int mo), .val (.int po), .val (.int cc), .val (.int ls), .val (.long ch), .second, .val (.int mm), .val (.ref nb1), .val (.int r50), .unset, .unset, .unset, .unset] [(.int ((cc &&& (255 : Int32)).toUInt32.toUInt16.toUInt32.toInt32)), (.int (2 : Int32)), (.ref nb1)])
            obtain ⟨cl54, Ar54, q54, S54, N54', H54, G54⟩ := id Vja
            have hin54 : ¬ ((2 : Int32) < 0 ∨ cl54.slots.size ≤ ((2 : Int32)).toNatClampNeg) := inb_of S54 ⟨by decide, by decide⟩
            obtain ⟨T54, h54, X54, e54, W54, st54⟩ := stC X50 hx hZ hh50 Ar54 (j := (2 : Int32)) hin54 (g := (mkF m 272 #[.val (.int mo), .val (.int po), .val (.int cc), .val (.int ls), .val (.long ch), .second, .val (.int mm), .val (.ref nb1), .val (.int r50), .unset, .unset, .unset, .unset] [(.int ((cc &&& (255 : Int32)).toUInt32.toUInt16.toUInt32.toInt32)), (.int (2 : Int32)), (.ref nb1)])) rfl rfl (hb hby at_272)
            have V54 : Arv Z h54 nb1 k1 .char (8 : Int32) [(.int x0), (.int x1), (.int (nar .char ((cc &&& (255 : Int32)).toUInt32.toUInt16.toUInt32.toInt32))), (.int x3), (.int x4), (.int x5), (.int x6), (.int x7)] (.int (0 : Int32)) := Arv.set Ar54 q54 S54 N54' H54 G54 (fits_nar_char _) W54 2 rfl (Nat.le_of_ble_eq_true rfl)
            refine own_st st54 ?_
            have Sw54 := (Safe.arv (EL := consts_1) hZ.alike Vja (by decide))
            have B54 := own_Bk.wr W54 Sw54 Bja
            have N54 := Fr.snoc X54 N50 g_nb1
            have K54 : Keep h0 h54 [] := Kja.wr W54 (Or.inr sz_nb1)
            show own_Go p e below _ T54 (mkF m 273 #[.val (.int mo), .val (.int po), .val (.int cc), .val (.int ls), .val (.long ch), .second, .val (.int mm), .val (.ref nb1), .val (.int r50), .unset, .unset, .unset, .unset] [])
            exact J273 x0 x1 (nar .char ((cc &&& (255 : Int32)).toUInt32.toUInt16.toUInt32.toInt32)) x3 x4 x5 x6 x7 r50 _ _ _ X54 e54 N54 K54 B54 V54 ⟨hL0, hL1, (own_i2cLN _), hL3, hL4, hL5, hL6, hL7⟩ h9_50
          · show own_Go p e below _ T50 (mkF m 266 #[.val (.int mo), .val (.int po), .val (.int cc), .val (.int ls), .val (.long ch), .second, .val (.int mm), .val (.ref nb1), .val (.int r50), .unset, .unset, .unset, .unset] [(.int (3 : Int32)), (.ref nb1)])
            refine own_st (fun t_ k_ => XS.iloadN X50.here hx rfl (hb hby at_266) rfl k_) ?_
            show own_Go p e below _ T50 (mkF m 267 #[.val (.int mo), .val (.int po), .val (.int cc), .val (.int ls), .val (.long ch), .second, .val (.int mm), .val (.ref nb1), .val (.int r50), .unset, .unset, .unset, .unset] [(.int cc), (.int (3 : Int32)), (.ref nb1)])
            refine own_st (fun t_ k_ => XS.sipush X50.here hx rfl (hb hby at_267) k_) ?_
            show own_Go p e below _ T50 (mkF m 270 #[.val (.int mo), .val (.int po), .val (.int cc), .val (.int ls), .val (.long ch), .second, .val (.int mm), .val (.ref nb1), .val (.int r50), .unset, .unset, .unset, .unset] [(.int (255 : Int32)), (.int cc), (.int (3 : Int32)), (.ref nb1)])
            refine own_st (fun t_ k_ => XS.iand X50.here hx rfl (hb hby at_270) rfl k_) ?_
            show own_Go p e below _ T50 (mkF m 271 #[.val (.int mo), .val (.int po), .val (.int cc), .val (.int ls), .val (.long ch), .second, .val (.int mm), .val (.ref nb1), .val (.int r50), .unset, .unset, .unset, .unset] [(.int (cc &&& (255 : Int32))), (.int (3 : Int32)), (.ref nb1)])
            refine own_st (fun t_ k_ => XS.i2c X50.here hx rfl (hb hby at_271) rfl k_) ?_
            show own_Go p e below _ T50 (mkF m 272 #[.val (.int mo), .val (.int po), .val (.int cc), .val (.int ls), .val (.long ch), .second, .val (.int mm), .val (.ref nb1), .val (.int r50), .unset, .unset, .unset, .unset] [(.int ((cc &&& (255 : Int32)).toUInt32.toUInt16.toUInt32.toInt32)), (.int (3 : Int32)), (.ref nb1)])
            obtain ⟨cl55, Ar55, q55, S55, N55', H55, G55⟩ := id Vja
            have hin55 : ¬ ((3 : Int32) < 0 ∨ cl55.slots.size ≤ ((3 : Int32)).toNatClampNeg) := inb_of S55 ⟨by decide, by decide⟩
            obtain ⟨T55, h55, X55, e55, W55, st55⟩ := stC X50 hx hZ hh50 Ar55 (j := (3 : Int32)) hin55 (g := (mkF m 272 #[.val (.int mo), .val (.int po), .val (.int cc), .val (.int ls), .val (.long ch), .second, .val (.int mm), .val (.ref nb1), .val (.int r50), .unset, .unset, .unset, .unset] [(.int ((cc &&& (255 : Int32)).toUInt32.toUInt16.toUInt32.toInt32)), (.int (3 : Int32)), (.ref nb1)])) rfl rfl (hb hby at_272)
            have V55 : Arv Z h55 nb1 k1 .char (8 : Int32) [(.int x0), (.int x1), (.int x2), (.int (nar .char ((cc &&& (255 : Int32)).toUInt32.toUInt16.toUInt32.toInt32))), (.int x4), (.int x5), (.int x6), (.int x7)] (.int (0 : Int32)) := Arv.set Ar55 q55 S55 N55' H55 G55 (fits_nar_char _) W55 3 rfl (Nat.le_of_ble_eq_true rfl)
            refine own_st st55 ?_
            have Sw55 := (Safe.arv (EL := consts_1) hZ.alike Vja (by decide))
            have B55 := own_Bk.wr W55 Sw55 Bja
            have N55 := Fr.snoc X55 N50 g_nb1
            have K55 : Keep h0 h55 [] := Kja.wr W55 (Or.inr sz_nb1)
            show own_Go p e below _ T55 (mkF m 273 #[.val (.int mo), .val (.int po), .val (.int cc), .val (.int ls), .val (.long ch), .second, .val (.int mm), .val (.ref nb1), .val (.int r50), .unset, .unset, .unset, .unset] [])
            exact J273 x0 x1 x2 (nar .char ((cc &&& (255 : Int32)).toUInt32.toUInt16.toUInt32.toInt32)) x4 x5 x6 x7 r50 _ _ _ X55 e55 N55 K55 B55 V55 ⟨hL0, hL1, hL2, (own_i2cLN _), hL4, hL5, hL6, hL7⟩ h9_50
          · show own_Go p e below _ T50 (mkF m 266 #[.val (.int mo), .val (.int po), .val (.int cc), .val (.int ls), .val (.long ch), .second, .val (.int mm), .val (.ref nb1), .val (.int r50), .unset, .unset, .unset, .unset] [(.int (4 : Int32)), (.ref nb1)])
            refine own_st (fun t_ k_ => XS.iloadN X50.here hx rfl (hb hby at_266) rfl k_) ?_
            show own_Go p e below _ T50 (mkF m 267 #[.val (.int mo), .val (.int po), .val (.int cc), .val (.int ls), .val (.long ch), .second, .val (.int mm), .val (.ref nb1), .val (.int r50), .unset, .unset, .unset, .unset] [(.int cc), (.int (4 : Int32)), (.ref nb1)])
            refine own_st (fun t_ k_ => XS.sipush X50.here hx rfl (hb hby at_267) k_) ?_
            show own_Go p e below _ T50 (mkF m 270 #[.val (.int mo), .val (.int po), .val (.int cc), .val (.int ls), .val (.long ch), .second, .val (.int mm), .val (.ref nb1), .val (.int r50), .unset, .unset, .unset, .unset] [(.int (255 : Int32)), (.int cc), (.int (4 : Int32)), (.ref nb1)])
            refine own_st (fun t_ k_ => XS.iand X50.here hx rfl (hb hby at_270) rfl k_) ?_
            show own_Go p e below _ T50 (mkF m 271 #[.val (.int mo), .val (.int po), .val (.int cc), .val (.int ls), .val (.long ch), .second, .val (.int mm), .val (.ref nb1), .val (.int r50), .unset, .unset, .unset, .unset] [(.int (cc &&& (255 : Int32))), (.int (4 : Int32)), (.ref nb1)])
            refine own_st (fun t_ k_ => XS.i2c X50.here hx rfl (hb hby at_271) rfl k_) ?_
            show own_Go p e below _ T50 (mkF m 272 #[.val (.int mo), .val (.int po), .val (.int cc), .val (.int ls), .val (.long ch), .second, .val (.int mm), .val (.ref nb1), .val (.int r50), .unset, .unset, .unset, .unset] [(.int ((cc &&& (255 : Int32)).toUInt32.toUInt16.toUInt32.toInt32)), (.int (4 : Int32)), (.ref nb1)])
            obtain ⟨cl56, Ar56, q56, S56, N56', H56, G56⟩ := id Vja
            have hin56 : ¬ ((4 : Int32) < 0 ∨ cl56.slots.size ≤ ((4 : Int32)).toNatClampNeg) := inb_of S56 ⟨by decide, by decide⟩
            obtain ⟨T56, h56, X56, e56, W56, st56⟩ := stC X50 hx hZ hh50 Ar56 (j := (4 : Int32)) hin56 (g := (mkF m 272 #[.val (.int mo), .val (.int po), .val (.int cc), .val (.int ls), .val (.long ch), .second, .val (.int mm), .val (.ref nb1), .val (.int r50), .unset, .unset, .unset, .unset] [(.int ((cc &&& (255 : Int32)).toUInt32.toUInt16.toUInt32.toInt32)), (.int (4 : Int32)), (.ref nb1)])) rfl rfl (hb hby at_272)
            have V56 : Arv Z h56 nb1 k1 .char (8 : Int32) [(.int x0), (.int x1), (.int x2), (.int x3), (.int (nar .char ((cc &&& (255 : Int32)).toUInt32.toUInt16.toUInt32.toInt32))), (.int x5), (.int x6), (.int x7)] (.int (0 : Int32)) := Arv.set Ar56 q56 S56 N56' H56 G56 (fits_nar_char _) W56 4 rfl (Nat.le_of_ble_eq_true rfl)
            refine own_st st56 ?_
            have Sw56 := (Safe.arv (EL := consts_1) hZ.alike Vja (by decide))
            have B56 := own_Bk.wr W56 Sw56 Bja
            have N56 := Fr.snoc X56 N50 g_nb1
            have K56 : Keep h0 h56 [] := Kja.wr W56 (Or.inr sz_nb1)
            show own_Go p e below _ T56 (mkF m 273 #[.val (.int mo), .val (.int po), .val (.int cc), .val (.int ls), .val (.long ch), .second, .val (.int mm), .val (.ref nb1), .val (.int r50), .unset, .unset, .unset, .unset] [])
            exact J273 x0 x1 x2 x3 (nar .char ((cc &&& (255 : Int32)).toUInt32.toUInt16.toUInt32.toInt32)) x5 x6 x7 r50 _ _ _ X56 e56 N56 K56 B56 V56 ⟨hL0, hL1, hL2, hL3, (own_i2cLN _), hL5, hL6, hL7⟩ h9_50
          · show own_Go p e below _ T50 (mkF m 266 #[.val (.int mo), .val (.int po), .val (.int cc), .val (.int ls), .val (.long ch), .second, .val (.int mm), .val (.ref nb1), .val (.int r50), .unset, .unset, .unset, .unset] [(.int (5 : Int32)), (.ref nb1)])
            refine own_st (fun t_ k_ => XS.iloadN X50.here hx rfl (hb hby at_266) rfl k_) ?_
            show own_Go p e below _ T50 (mkF m 267 #[.val (.int mo), .val (.int po), .val (.int cc), .val (.int ls), .val (.long ch), .second, .val (.int mm), .val (.ref nb1), .val (.int r50), .unset, .unset, .unset, .unset] [(.int cc), (.int (5 : Int32)), (.ref nb1)])
            refine own_st (fun t_ k_ => XS.sipush X50.here hx rfl (hb hby at_267) k_) ?_
            show own_Go p e below _ T50 (mkF m 270 #[.val (.int mo), .val (.int po), .val (.int cc), .val (.int ls), .val (.long ch), .second, .val (.int mm), .val (.ref nb1), .val (.int r50), .unset, .unset, .unset, .unset] [(.int (255 : Int32)), (.int cc), (.int (5 : Int32)), (.ref nb1)])
            refine own_st (fun t_ k_ => XS.iand X50.here hx rfl (hb hby at_270) rfl k_) ?_
            show own_Go p e below _ T50 (mkF m 271 #[.val (.int mo), .val (.int po), .val (.int cc), .val (.int ls), .val (.long ch), .second, .val (.int mm), .val (.ref nb1), .val (.int r50), .unset, .unset, .unset, .unset] [(.int (cc &&& (255 : Int32))), (.int (5 : Int32)), (.ref nb1)])
            refine own_st (fun t_ k_ => XS.i2c X50.here hx rfl (hb hby at_271) rfl k_) ?_
            show own_Go p e below _ T50 (mkF m 272 #[.val (.int mo), .val (.int po), .val (.int cc), .val (.int ls), .val (.long ch), .second, .val (.int mm), .val (.ref nb1), .val (.int r50), .unset, .unset, .unset, .unset] [(.int ((cc &&& (255 : Int32)).toUInt32.toUInt16.toUInt32.toInt32)), (.int (5 : Int32)), (.ref nb1)])
            obtain ⟨cl57, Ar57, q57, S57, N57', H57, G57⟩ := id Vja
            have hin57 : ¬ ((5 : Int32) < 0 ∨ cl57.slots.size ≤ ((5 : Int32)).toNatClampNeg) := inb_of S57 ⟨by decide, by decide⟩
            obtain ⟨T57, h57, X57, e57, W57, st57⟩ := stC X50 hx hZ hh50 Ar57 (j := (5 : Int32)) hin57 (g := (mkF m 272 #[.val (.int mo), .val (.int po), .val (.int cc), .val (.int ls), .val (.long ch), .second, .val (.int mm), .val (.ref nb1), .val (.int r50), .unset, .unset, .unset, .unset] [(.int ((cc &&& (255 : Int32)).toUInt32.toUInt16.toUInt32.toInt32)), (.int (5 : Int32)), (.ref nb1)])) rfl rfl (hb hby at_272)
            have V57 : Arv Z h57 nb1 k1 .char (8 : Int32) [(.int x0), (.int x1), (.int x2), (.int x3), (.int x4), (.int (nar .char ((cc &&& (255 : Int32)).toUInt32.toUInt16.toUInt32.toInt32))), (.int x6), (.int x7)] (.int (0 : Int32)) := Arv.set Ar57 q57 S57 N57' H57 G57 (fits_nar_char _) W57 5 rfl (Nat.le_of_ble_eq_true rfl)
            refine own_st st57 ?_
            have Sw57 := (Safe.arv (EL := consts_1) hZ.alike Vja (by decide))
            have B57 := own_Bk.wr W57 Sw57 Bja
            have N57 := Fr.snoc X57 N50 g_nb1
            have K57 : Keep h0 h57 [] := Kja.wr W57 (Or.inr sz_nb1)
            show own_Go p e below _ T57 (mkF m 273 #[.val (.int mo), .val (.int po), .val (.int cc), .val (.int ls), .val (.long ch), .second, .val (.int mm), .val (.ref nb1), .val (.int r50), .unset, .unset, .unset, .unset] [])
            exact J273 x0 x1 x2 x3 x4 (nar .char ((cc &&& (255 : Int32)).toUInt32.toUInt16.toUInt32.toInt32)) x6 x7 r50 _ _ _ X57 e57 N57 K57 B57 V57 ⟨hL0, hL1, hL2, hL3, hL4, (own_i2cLN _), hL6, hL7⟩ h9_50
          · show own_Go p e below _ T50 (mkF m 266 #[.val (.int mo), .val (.int po), .val (.int cc), .val (.int ls), .val (.long ch), .second, .val (.int mm), .val (.ref nb1), .val (.int r50), .unset, .unset, .unset, .unset] [(.int (6 : Int32)), (.ref nb1)])
            refine own_st (fun t_ k_ => XS.iloadN X50.here hx rfl (hb hby at_266) rfl k_) ?_
            show own_Go p e below _ T50 (mkF m 267 #[.val (.int mo), .val (.int po), .val (.int cc), .val (.int ls), .val (.long ch), .second, .val (.int mm), .val (.ref nb1), .val (.int r50), .unset, .unset, .unset, .unset] [(.int cc), (.int (6 : Int32)), (.ref nb1)])
            refine own_st (fun t_ k_ => XS.sipush X50.here hx rfl (hb hby at_267) k_) ?_
            show own_Go p e below _ T50 (mkF m 270 #[.val (.int mo), .val (.int po), .val (.int cc), .val (.int ls), .val (.long ch), .second, .val (.int mm), .val (.ref nb1), .val (.int r50), .unset, .unset, .unset, .unset] [(.int (255 : Int32)), (.int cc), (.int (6 : Int32)), (.ref nb1)])
            refine own_st (fun t_ k_ => XS.iand X50.here hx rfl (hb hby at_270) rfl k_) ?_
            show own_Go p e below _ T50 (mkF m 271 #[.val (.int mo), .val (.int po), .val (.int cc), .val (.int ls), .val (.long ch), .second, .val (.int mm), .val (.ref nb1), .val (.int r50), .unset, .unset, .unset, .unset] [(.int (cc &&& (255 : Int32))), (.int (6 : Int32)), (.ref nb1)])
            refine own_st (fun t_ k_ => XS.i2c X50.here hx rfl (hb hby at_271) rfl k_) ?_
            show own_Go p e below _ T50 (mkF m 272 #[.val (.int mo), .val (.int po), .val (.int cc), .val (.int ls), .val (.long ch), .second, .val (.int mm), .val (.ref nb1), .val (.int r50), .unset, .unset, .unset, .unset] [(.int ((cc &&& (255 : Int32)).toUInt32.toUInt16.toUInt32.toInt32)), (.int (6 : Int32)), (.ref nb1)])
            obtain ⟨cl58, Ar58, q58, S58, N58', H58, G58⟩ := id Vja
            have hin58 : ¬ ((6 : Int32) < 0 ∨ cl58.slots.size ≤ ((6 : Int32)).toNatClampNeg) := inb_of S58 ⟨by decide, by decide⟩
            obtain ⟨T58, h58, X58, e58, W58, st58⟩ := stC X50 hx hZ hh50 Ar58 (j := (6 : Int32)) hin58 (g := (mkF m 272 #[.val (.int mo), .val (.int po), .val (.int cc), .val (.int ls), .val (.long ch), .second, .val (.int mm), .val (.ref nb1), .val (.int r50), .unset, .unset, .unset, .unset] [(.int ((cc &&& (255 : Int32)).toUInt32.toUInt16.toUInt32.toInt32)), (.int (6 : Int32)), (.ref nb1)])) rfl rfl (hb hby at_272)
            have V58 : Arv Z h58 nb1 k1 .char (8 : Int32) [(.int x0), (.int x1), (.int x2), (.int x3), (.int x4), (.int x5), (.int (nar .char ((cc &&& (255 : Int32)).toUInt32.toUInt16.toUInt32.toInt32))), (.int x7)] (.int (0 : Int32)) := Arv.set Ar58 q58 S58 N58' H58 G58 (fits_nar_char _) W58 6 rfl (Nat.le_of_ble_eq_true rfl)
            refine own_st st58 ?_
            have Sw58 := (Safe.arv (EL := consts_1) hZ.alike Vja (by decide))
            have B58 := own_Bk.wr W58 Sw58 Bja
            have N58 := Fr.snoc X58 N50 g_nb1
            have K58 : Keep h0 h58 [] := Kja.wr W58 (Or.inr sz_nb1)
            show own_Go p e below _ T58 (mkF m 273 #[.val (.int mo), .val (.int po), .val (.int cc), .val (.int ls), .val (.long ch), .second, .val (.int mm), .val (.ref nb1), .val (.int r50), .unset, .unset, .unset, .unset] [])
            exact J273 x0 x1 x2 x3 x4 x5 (nar .char ((cc &&& (255 : Int32)).toUInt32.toUInt16.toUInt32.toInt32)) x7 r50 _ _ _ X58 e58 N58 K58 B58 V58 ⟨hL0, hL1, hL2, hL3, hL4, hL5, (own_i2cLN _), hL7⟩ h9_50
          · show own_Go p e below _ T50 (mkF m 266 #[.val (.int mo), .val (.int po), .val (.int cc), .val (.int ls), .val (.long ch), .second, .val (.int mm), .val (.ref nb1), .val (.int r50), .unset, .unset, .unset, .unset] [(.int (7 : Int32)), (.ref nb1)])
            refine own_st (fun t_ k_ => XS.iloadN X50.here hx rfl (hb hby at_266) rfl k_) ?_
            show own_Go p e below _ T50 (mkF m 267 #[.val (.int mo), .val (.int po), .val (.int cc), .val (.int ls), .val (.long ch), .second, .val (.int mm), .val (.ref nb1), .val (.int r50), .unset, .unset, .unset, .unset] [(.int cc), (.int (7 : Int32)), (.ref nb1)])
            refine own_st (fun t_ k_ => XS.sipush X50.here hx rfl (hb hby at_267) k_) ?_
            show own_Go p e below _ T50 (mkF m 270 #[.val (.int mo), .val (.int po), .val (.int cc), .val (.int ls), .val (.long ch), .second, .val (.int mm), .val (.ref nb1), .val (.int r50), .unset, .unset, .unset, .unset] [(.int (255 : Int32)), (.int cc), (.int (7 : Int32)), (.ref nb1)])
            refine own_st (fun t_ k_ => XS.iand X50.here hx rfl (hb hby at_270) rfl k_) ?_
            show own_Go p e below _ T50 (mkF m 271 #[.val (.int mo), .val (.int po), .val (.int cc), .val (.int ls), .val (.long ch), .second, .val (.int mm), .val (.ref nb1), .val (.int r50), .unset, .unset, .unset, .unset] [(.int (cc &&& (255 : Int32))), (.int (7 : Int32)), (.ref nb1)])
            refine own_st (fun t_ k_ => XS.i2c X50.here hx rfl (hb hby at_271) rfl k_) ?_
            show own_Go p e below _ T50 (mkF m 272 #[.val (.int mo), .val (.int po), .val (.int cc), .val (.int ls), .val (.long ch), .second, .val (.int mm), .val (.ref nb1), .val (.int r50), .unset, .unset, .unset, .unset] [(.int ((cc &&& (255 : Int32)).toUInt32.toUInt16.toUInt32.toInt32)), (.int (7 : Int32)), (.ref nb1)])
            obtain ⟨cl59, Ar59, q59, S59, N59', H59, G59⟩ := id Vja
            have hin59 : ¬ ((7 : Int32) < 0 ∨ cl59.slots.size ≤ ((7 : Int32)).toNatClampNeg) := inb_of S59 ⟨by decide, by decide⟩
            obtain ⟨T59, h59, X59, e59, W59, st59⟩ := stC X50 hx hZ hh50 Ar59 (j := (7 : Int32)) hin59 (g := (mkF m 272 #[.val (.int mo), .val (.int po), .val (.int cc), .val (.int ls), .val (.long ch), .second, .val (.int mm), .val (.ref nb1), .val (.int r50), .unset, .unset, .unset, .unset] [(.int ((cc &&& (255 : Int32)).toUInt32.toUInt16.toUInt32.toInt32)), (.int (7 : Int32)), (.ref nb1)])) rfl rfl (hb hby at_272)
            have V59 : Arv Z h59 nb1 k1 .char (8 : Int32) [(.int x0), (.int x1), (.int x2), (.int x3), (.int x4), (.int x5), (.int x6), (.int (nar .char ((cc &&& (255 : Int32)).toUInt32.toUInt16.toUInt32.toInt32)))] (.int (0 : Int32)) := Arv.set Ar59 q59 S59 N59' H59 G59 (fits_nar_char _) W59 7 rfl (Nat.le_of_ble_eq_true rfl)
            refine own_st st59 ?_
            have Sw59 := (Safe.arv (EL := consts_1) hZ.alike Vja (by decide))
            have B59 := own_Bk.wr W59 Sw59 Bja
            have N59 := Fr.snoc X59 N50 g_nb1
            have K59 : Keep h0 h59 [] := Kja.wr W59 (Or.inr sz_nb1)
            show own_Go p e below _ T59 (mkF m 273 #[.val (.int mo), .val (.int po), .val (.int cc), .val (.int ls), .val (.long ch), .second, .val (.int mm), .val (.ref nb1), .val (.int r50), .unset, .unset, .unset, .unset] [])
            exact J273 x0 x1 x2 x3 x4 x5 x6 (nar .char ((cc &&& (255 : Int32)).toUInt32.toUInt16.toUInt32.toInt32)) r50 _ _ _ X59 e59 N59 K59 B59 V59 ⟨hL0, hL1, hL2, hL3, hL4, hL5, hL6, (own_i2cLN _)⟩ h9_50
  · intro J235
    show own_Go p e below _ T15 (mkF m 133 #[.val (.int mo), .val (.int po), .val (.int cc), .val (.int ls), .val (.long ch), .second, .val (.int mm), .val (.ref nb1), .unset, .unset, .unset, .unset, .unset] [])
    rcases (d_mm : mm = (0 : Int32) ∨ mm = (1 : Int32) ∨ mm = (2 : Int32)) with rfl | rfl | rfl
    · show own_Go p e below _ T15 (mkF m 133 #[.val (.int mo), .val (.int po), .val (.int cc), .val (.int ls), .val (.long ch), .second, .val (.int (0 : Int32)), .val (.ref nb1), .unset, .unset, .unset, .unset, .unset] [])
      refine own_st (fun t_ k_ => XS.iload X15.here hx rfl (hb hby at_133) rfl k_) ?_
      show own_Go p e below _ T15 (mkF m 135 #[.val (.int mo), .val (.int po), .val (.int cc), .val (.int ls), .val (.long ch), .second, .val (.int (0 : Int32)), .val (.ref nb1), .unset, .unset, .unset, .unset, .unset] [(.int (0 : Int32))])
      refine own_st (fun t_ k_ => XS.ifNo X15.here hx rfl (hb hby at_135) rfl (by decide) k_) ?_
      show own_Go p e below _ T15 (mkF m 138 #[.val (.int mo), .val (.int po), .val (.int cc), .val (.int ls), .val (.long ch), .second, .val (.int (0 : Int32)), .val (.ref nb1), .unset, .unset, .unset, .unset, .unset] [])
      refine own_st (fun t_ k_ => XS.aload X15.here hx rfl (hb hby at_138) rfl rfl k_) ?_
      show own_Go p e below _ T15 (mkF m 140 #[.val (.int mo), .val (.int po), .val (.int cc), .val (.int ls), .val (.long ch), .second, .val (.int (0 : Int32)), .val (.ref nb1), .unset, .unset, .unset, .unset, .unset] [(.ref nb1)])
      refine own_st (fun t_ k_ => XS.iconst X15.here hx rfl (hb hby at_140) k_) ?_
      show own_Go p e below _ T15 (mkF m 141 #[.val (.int mo), .val (.int po), .val (.int cc), .val (.int ls), .val (.long ch), .second, .val (.int (0 : Int32)), .val (.ref nb1), .unset, .unset, .unset, .unset, .unset] [(.int (0 : Int32)), (.ref nb1)])
      refine own_st (fun t_ k_ => XS.bipush X15.here hx rfl (hb hby at_141) k_) ?_
      show own_Go p e below _ T15 (mkF m 143 #[.val (.int mo), .val (.int po), .val (.int cc), .val (.int ls), .val (.long ch), .second, .val (.int (0 : Int32)), .val (.ref nb1), .unset, .unset, .unset, .unset, .unset] [(.int (117 : Int32)), (.int (0 : Int32)), (.ref nb1)])
      obtain ⟨cl17, Ar17, q17, S17, N17', H17, G17⟩ := id V15
      have hin17 : ¬ ((0 : Int32) < 0 ∨ cl17.slots.size ≤ ((0 : Int32)).toNatClampNeg) := inb_of S17 ⟨by decide, by decide⟩
      obtain ⟨T17, h17, X17, e17, W17, st17⟩ := stC X15 hx hZ e15 Ar17 (j := (0 : Int32)) hin17 (g := (mkF m 143 #[.val (.int mo), .val (.int po), .val (.int cc), .val (.int ls), .val (.long ch), .second, .val (.int (0 : Int32)), .val (.ref nb1), .unset, .unset, .unset, .unset, .unset] [(.int (117 : Int32)), (.int (0 : Int32)), (.ref nb1)])) rfl rfl (hb hby at_143)
      have V17 : Arv Z h17 nb1 k1 .char (8 : Int32) [(.int (117 : Int32)), (.int (nar .char (((((ch.toUInt64 >>> ((8 : Int32) &&& 0x3f).toInt64.toUInt64).toInt64) &&& (255 : Int64)).toInt32).toUInt32.toUInt16.toUInt32.toInt32))), (.int (nar .char (((((ch.toUInt64 >>> ((16 : Int32) &&& 0x3f).toInt64.toUInt64).toInt64) &&& (255 : Int64)).toInt32).toUInt32.toUInt16.toUInt32.toInt32))), (.int (nar .char (((((ch.toUInt64 >>> ((24 : Int32) &&& 0x3f).toInt64.toUInt64).toInt64) &&& (255 : Int64)).toInt32).toUInt32.toUInt16.toUInt32.toInt32))), (.int (nar .char (((((ch.toUInt64 >>> ((32 : Int32) &&& 0x3f).toInt64.toUInt64).toInt64) &&& (255 : Int64)).toInt32).toUInt32.toUInt16.toUInt32.toInt32))), (.int (nar .char (((((ch.toUInt64 >>> ((40 : Int32) &&& 0x3f).toInt64.toUInt64).toInt64) &&& (255 : Int64)).toInt32).toUInt32.toUInt16.toUInt32.toInt32))), (.int (nar .char (((((ch.toUInt64 >>> ((48 : Int32) &&& 0x3f).toInt64.toUInt64).toInt64) &&& (255 : Int64)).toInt32).toUInt32.toUInt16.toUInt32.toInt32))), (.int (nar .char (((((ch.toUInt64 >>> ((56 : Int32) &&& 0x3f).toInt64.toUInt64).toInt64) &&& (255 : Int64)).toInt32).toUInt32.toUInt16.toUInt32.toInt32)))] (.int (0 : Int32)) := Arv.set Ar17 q17 S17 N17' H17 G17 (fits_nar_char _) W17 0 rfl (Nat.le_of_ble_eq_true rfl)
      refine own_st st17 ?_
      have f18 := (Safe.wr W15 Sw15 (own_Bk.ch B13) f16)
      have Sw17 := f18
      have B17 := own_Bk.wr W17 Sw17 B15
      have N17 := Fr.snoc X17 N15 g_nb1
      have K17 : Keep h0 h17 [] := K15.wr W17 (Or.inr sz_nb1)
      show own_Go p e below _ T17 (mkF m 144 #[.val (.int mo), .val (.int po), .val (.int cc), .val (.int ls), .val (.long ch), .second, .val (.int (0 : Int32)), .val (.ref nb1), .unset, .unset, .unset, .unset, .unset] [])
      refine own_st (fun t_ k_ => XS.aload X17.here hx rfl (hb hby at_144) rfl rfl k_) ?_
      show own_Go p e below _ T17 (mkF m 146 #[.val (.int mo), .val (.int po), .val (.int cc), .val (.int ls), .val (.long ch), .second, .val (.int (0 : Int32)), .val (.ref nb1), .unset, .unset, .unset, .unset, .unset] [(.ref nb1)])
      refine own_st (fun t_ k_ => XS.iconst X17.here hx rfl (hb hby at_146) k_) ?_
      show own_Go p e below _ T17 (mkF m 147 #[.val (.int mo), .val (.int po), .val (.int cc), .val (.int ls), .val (.long ch), .second, .val (.int (0 : Int32)), .val (.ref nb1), .unset, .unset, .unset, .unset, .unset] [(.int (1 : Int32)), (.ref nb1)])
      refine own_st (fun t_ k_ => XS.bipush X17.here hx rfl (hb hby at_147) k_) ?_
      show own_Go p e below _ T17 (mkF m 149 #[.val (.int mo), .val (.int po), .val (.int cc), .val (.int ls), .val (.long ch), .second, .val (.int (0 : Int32)), .val (.ref nb1), .unset, .unset, .unset, .unset, .unset] [(.int (115 : Int32)), (.int (1 : Int32)), (.ref nb1)])
      obtain ⟨cl19, Ar19, q19, S19, N19', H19, G19⟩ := id V17
      have hin19 : ¬ ((1 : Int32) < 0 ∨ cl19.slots.size ≤ ((1 : Int32)).toNatClampNeg) := inb_of S19 ⟨by decide, by decide⟩
      obtain ⟨T19, h19, X19, e19, W19, st19⟩ := stC X17 hx hZ e17 Ar19 (j := (1 : Int32)) hin19 (g := (mkF m 149 #[.val (.int mo), .val (.int po), .val (.int cc), .val (.int ls), .val (.long ch), .second, .val (.int (0 : Int32)), .val (.ref nb1), .unset, .unset, .unset, .unset, .unset] [(.int (115 : Int32)), (.int (1 : Int32)), (.ref nb1)])) rfl rfl (hb hby at_149)
      have V19 : Arv Z h19 nb1 k1 .char (8 : Int32) [(.int (117 : Int32)), (.int (115 : Int32)), (.int (nar .char (((((ch.toUInt64 >>> ((16 : Int32) &&& 0x3f).toInt64.toUInt64).toInt64) &&& (255 : Int64)).toInt32).toUInt32.toUInt16.toUInt32.toInt32))), (.int (nar .char (((((ch.toUInt64 >>> ((24 : Int32) &&& 0x3f).toInt64.toUInt64).toInt64) &&& (255 : Int64)).toInt32).toUInt32.toUInt16.toUInt32.toInt32))), (.int (nar .char (((((ch.toUInt64 >>> ((32 : Int32) &&& 0x3f).toInt64.toUInt64).toInt64) &&& (255 : Int64)).toInt32).toUInt32.toUInt16.toUInt32.toInt32))), (.int (nar .char (((((ch.toUInt64 >>> ((40 : Int32) &&& 0x3f).toInt64.toUInt64).toInt64) &&& (255 : Int64)).toInt32).toUInt32.toUInt16.toUInt32.toInt32))), (.int (nar .char (((((ch.toUInt64 >>> ((48 : Int32) &&& 0x3f).toInt64.toUInt64).toInt64) &&& (255 : Int64)).toInt32).toUInt32.toUInt16.toUInt32.toInt32))), (.int (nar .char (((((ch.toUInt64 >>> ((56 : Int32) &&& 0x3f).toInt64.toUInt64).toInt64) &&& (255 : Int64)).toInt32).toUInt32.toUInt16.toUInt32.toInt32)))] (.int (0 : Int32)) := Arv.set Ar19 q19 S19 N19' H19 G19 (fits_nar_char _) W19 1 rfl (Nat.le_of_ble_eq_true rfl)
      refine own_st st19 ?_
      have f20 := (Safe.wr W17 Sw17 (own_Bk.ch B15) f18)
      have Sw19 := f20
      have B19 := own_Bk.wr W19 Sw19 B17
      have N19 := Fr.snoc X19 N17 g_nb1
      have K19 : Keep h0 h19 [] := K17.wr W19 (Or.inr sz_nb1)
      show own_Go p e below _ T19 (mkF m 150 #[.val (.int mo), .val (.int po), .val (.int cc), .val (.int ls), .val (.long ch), .second, .val (.int (0 : Int32)), .val (.ref nb1), .unset, .unset, .unset, .unset, .unset] [])
      refine own_st (fun t_ k_ => XS.aload X19.here hx rfl (hb hby at_150) rfl rfl k_) ?_
      show own_Go p e below _ T19 (mkF m 152 #[.val (.int mo), .val (.int po), .val (.int cc), .val (.int ls), .val (.long ch), .second, .val (.int (0 : Int32)), .val (.ref nb1), .unset, .unset, .unset, .unset, .unset] [(.ref nb1)])
      refine own_st (fun t_ k_ => XS.iconst X19.here hx rfl (hb hby at_152) k_) ?_
      show own_Go p e below _ T19 (mkF m 153 #[.val (.int mo), .val (.int po), .val (.int cc), .val (.int ls), .val (.long ch), .second, .val (.int (0 : Int32)), .val (.ref nb1), .unset, .unset, .unset, .unset, .unset] [(.int (2 : Int32)), (.ref nb1)])
      refine own_st (fun t_ k_ => XS.bipush X19.here hx rfl (hb hby at_153) k_) ?_
      show own_Go p e below _ T19 (mkF m 155 #[.val (.int mo), .val (.int po), .val (.int cc), .val (.int ls), .val (.long ch), .second, .val (.int (0 : Int32)), .val (.ref nb1), .unset, .unset, .unset, .unset, .unset] [(.int (101 : Int32)), (.int (2 : Int32)), (.ref nb1)])
      obtain ⟨cl21, Ar21, q21, S21, N21', H21, G21⟩ := id V19
      have hin21 : ¬ ((2 : Int32) < 0 ∨ cl21.slots.size ≤ ((2 : Int32)).toNatClampNeg) := inb_of S21 ⟨by decide, by decide⟩
      obtain ⟨T21, h21, X21, e21, W21, st21⟩ := stC X19 hx hZ e19 Ar21 (j := (2 : Int32)) hin21 (g := (mkF m 155 #[.val (.int mo), .val (.int po), .val (.int cc), .val (.int ls), .val (.long ch), .second, .val (.int (0 : Int32)), .val (.ref nb1), .unset, .unset, .unset, .unset, .unset] [(.int (101 : Int32)), (.int (2 : Int32)), (.ref nb1)])) rfl rfl (hb hby at_155)
      have V21 : Arv Z h21 nb1 k1 .char (8 : Int32) [(.int (117 : Int32)), (.int (115 : Int32)), (.int (101 : Int32)), (.int (nar .char (((((ch.toUInt64 >>> ((24 : Int32) &&& 0x3f).toInt64.toUInt64).toInt64) &&& (255 : Int64)).toInt32).toUInt32.toUInt16.toUInt32.toInt32))), (.int (nar .char (((((ch.toUInt64 >>> ((32 : Int32) &&& 0x3f).toInt64.toUInt64).toInt64) &&& (255 : Int64)).toInt32).toUInt32.toUInt16.toUInt32.toInt32))), (.int (nar .char (((((ch.toUInt64 >>> ((40 : Int32) &&& 0x3f).toInt64.toUInt64).toInt64) &&& (255 : Int64)).toInt32).toUInt32.toUInt16.toUInt32.toInt32))), (.int (nar .char (((((ch.toUInt64 >>> ((48 : Int32) &&& 0x3f).toInt64.toUInt64).toInt64) &&& (255 : Int64)).toInt32).toUInt32.toUInt16.toUInt32.toInt32))), (.int (nar .char (((((ch.toUInt64 >>> ((56 : Int32) &&& 0x3f).toInt64.toUInt64).toInt64) &&& (255 : Int64)).toInt32).toUInt32.toUInt16.toUInt32.toInt32)))] (.int (0 : Int32)) := Arv.set Ar21 q21 S21 N21' H21 G21 (fits_nar_char _) W21 2 rfl (Nat.le_of_ble_eq_true rfl)
      refine own_st st21 ?_
      have f22 := (Safe.wr W19 Sw19 (own_Bk.ch B17) f20)
      have Sw21 := f22
      have B21 := own_Bk.wr W21 Sw21 B19
      have N21 := Fr.snoc X21 N19 g_nb1
      have K21 : Keep h0 h21 [] := K19.wr W21 (Or.inr sz_nb1)
      show own_Go p e below _ T21 (mkF m 156 #[.val (.int mo), .val (.int po), .val (.int cc), .val (.int ls), .val (.long ch), .second, .val (.int (0 : Int32)), .val (.ref nb1), .unset, .unset, .unset, .unset, .unset] [])
      refine own_st (fun t_ k_ => XS.aload X21.here hx rfl (hb hby at_156) rfl rfl k_) ?_
      show own_Go p e below _ T21 (mkF m 158 #[.val (.int mo), .val (.int po), .val (.int cc), .val (.int ls), .val (.long ch), .second, .val (.int (0 : Int32)), .val (.ref nb1), .unset, .unset, .unset, .unset, .unset] [(.ref nb1)])
      refine own_st (fun t_ k_ => XS.iconst X21.here hx rfl (hb hby at_158) k_) ?_
      show own_Go p e below _ T21 (mkF m 159 #[.val (.int mo), .val (.int po), .val (.int cc), .val (.int ls), .val (.long ch), .second, .val (.int (0 : Int32)), .val (.ref nb1), .unset, .unset, .unset, .unset, .unset] [(.int (3 : Int32)), (.ref nb1)])
      refine own_st (fun t_ k_ => XS.bipush X21.here hx rfl (hb hby at_159) k_) ?_
      show own_Go p e below _ T21 (mkF m 161 #[.val (.int mo), .val (.int po), .val (.int cc), .val (.int ls), .val (.long ch), .second, .val (.int (0 : Int32)), .val (.ref nb1), .unset, .unset, .unset, .unset, .unset] [(.int (114 : Int32)), (.int (3 : Int32)), (.ref nb1)])
      obtain ⟨cl23, Ar23, q23, S23, N23', H23, G23⟩ := id V21
      have hin23 : ¬ ((3 : Int32) < 0 ∨ cl23.slots.size ≤ ((3 : Int32)).toNatClampNeg) := inb_of S23 ⟨by decide, by decide⟩
      obtain ⟨T23, h23, X23, e23, W23, st23⟩ := stC X21 hx hZ e21 Ar23 (j := (3 : Int32)) hin23 (g := (mkF m 161 #[.val (.int mo), .val (.int po), .val (.int cc), .val (.int ls), .val (.long ch), .second, .val (.int (0 : Int32)), .val (.ref nb1), .unset, .unset, .unset, .unset, .unset] [(.int (114 : Int32)), (.int (3 : Int32)), (.ref nb1)])) rfl rfl (hb hby at_161)
      have V23 : Arv Z h23 nb1 k1 .char (8 : Int32) [(.int (117 : Int32)), (.int (115 : Int32)), (.int (101 : Int32)), (.int (114 : Int32)), (.int (nar .char (((((ch.toUInt64 >>> ((32 : Int32) &&& 0x3f).toInt64.toUInt64).toInt64) &&& (255 : Int64)).toInt32).toUInt32.toUInt16.toUInt32.toInt32))), (.int (nar .char (((((ch.toUInt64 >>> ((40 : Int32) &&& 0x3f).toInt64.toUInt64).toInt64) &&& (255 : Int64)).toInt32).toUInt32.toUInt16.toUInt32.toInt32))), (.int (nar .char (((((ch.toUInt64 >>> ((48 : Int32) &&& 0x3f).toInt64.toUInt64).toInt64) &&& (255 : Int64)).toInt32).toUInt32.toUInt16.toUInt32.toInt32))), (.int (nar .char (((((ch.toUInt64 >>> ((56 : Int32) &&& 0x3f).toInt64.toUInt64).toInt64) &&& (255 : Int64)).toInt32).toUInt32.toUInt16.toUInt32.toInt32)))] (.int (0 : Int32)) := Arv.set Ar23 q23 S23 N23' H23 G23 (fits_nar_char _) W23 3 rfl (Nat.le_of_ble_eq_true rfl)
      refine own_st st23 ?_
      have f24 := (Safe.wr W21 Sw21 (own_Bk.ch B19) f22)
      have Sw23 := f24
      have B23 := own_Bk.wr W23 Sw23 B21
      have N23 := Fr.snoc X23 N21 g_nb1
      have K23 : Keep h0 h23 [] := K21.wr W23 (Or.inr sz_nb1)
      show own_Go p e below _ T23 (mkF m 162 #[.val (.int mo), .val (.int po), .val (.int cc), .val (.int ls), .val (.long ch), .second, .val (.int (0 : Int32)), .val (.ref nb1), .unset, .unset, .unset, .unset, .unset] [])
      refine own_st (fun t_ k_ => XS.iconst X23.here hx rfl (hb hby at_162) k_) ?_
      show own_Go p e below _ T23 (mkF m 163 #[.val (.int mo), .val (.int po), .val (.int cc), .val (.int ls), .val (.long ch), .second, .val (.int (0 : Int32)), .val (.ref nb1), .unset, .unset, .unset, .unset, .unset] [(.int (4 : Int32))])
      refine own_st (fun t_ k_ => XS.istore X23.here hx rfl (hb hby at_163) rfl (l' := #[.val (.int mo), .val (.int po), .val (.int cc), .val (.int ls), .val (.long ch), .second, .val (.int (0 : Int32)), .val (.ref nb1), .val (.int (4 : Int32)), .unset, .unset, .unset, .unset]) rfl k_) ?_
      show own_Go p e below _ T23 (mkF m 165 #[.val (.int mo), .val (.int po), .val (.int cc), .val (.int ls), .val (.long ch), .second, .val (.int (0 : Int32)), .val (.ref nb1), .val (.int (4 : Int32)), .unset, .unset, .unset, .unset] [])
      refine own_st (fun t_ k_ => XS.goto X23.here hx rfl (pc0 := 165) (pc' := 235) rfl (hb hby at_165) (by decide) (by decide) k_) ?_
      show own_Go p e below _ T23 (mkF m 235 #[.val (.int mo), .val (.int po), .val (.int cc), .val (.int ls), .val (.long ch), .second, .val (.int (0 : Int32)), .val (.ref nb1), .val (.int (4 : Int32)), .unset, .unset, .unset, .unset] [])
      exact J235 (117 : Int32) (115 : Int32) (101 : Int32) (114 : Int32) (nar .char (((((ch.toUInt64 >>> ((32 : Int32) &&& 0x3f).toInt64.toUInt64).toInt64) &&& (255 : Int64)).toInt32).toUInt32.toUInt16.toUInt32.toInt32)) (nar .char (((((ch.toUInt64 >>> ((40 : Int32) &&& 0x3f).toInt64.toUInt64).toInt64) &&& (255 : Int64)).toInt32).toUInt32.toUInt16.toUInt32.toInt32)) (nar .char (((((ch.toUInt64 >>> ((48 : Int32) &&& 0x3f).toInt64.toUInt64).toInt64) &&& (255 : Int64)).toInt32).toUInt32.toUInt16.toUInt32.toInt32)) (nar .char (((((ch.toUInt64 >>> ((56 : Int32) &&& 0x3f).toInt64.toUInt64).toInt64) &&& (255 : Int64)).toInt32).toUInt32.toUInt16.toUInt32.toInt32)) (4 : Int32) _ _ _ X23 e23 N23 K23 B23 V23 ⟨⟨by decide, by decide⟩, ⟨by decide, by decide⟩, ⟨by decide, by decide⟩, ⟨by decide, by decide⟩, (own_pickL _), (own_pickL _), (own_pickL _), (own_pickL _)⟩ (Or.inr (Or.inr (Or.inr (Or.inr (Or.inl rfl)))))
    · show own_Go p e below _ T15 (mkF m 133 #[.val (.int mo), .val (.int po), .val (.int cc), .val (.int ls), .val (.long ch), .second, .val (.int (1 : Int32)), .val (.ref nb1), .unset, .unset, .unset, .unset, .unset] [])
      refine own_st (fun t_ k_ => XS.iload X15.here hx rfl (hb hby at_133) rfl k_) ?_
      show own_Go p e below _ T15 (mkF m 135 #[.val (.int mo), .val (.int po), .val (.int cc), .val (.int ls), .val (.long ch), .second, .val (.int (1 : Int32)), .val (.ref nb1), .unset, .unset, .unset, .unset, .unset] [(.int (1 : Int32))])
      refine own_st (fun t_ k_ => XS.ifYes X15.here hx rfl (pc0 := 135) (pc' := 168) rfl (hb hby at_135) rfl (by decide) (by decide) (by decide) k_) ?_
      show own_Go p e below _ T15 (mkF m 168 #[.val (.int mo), .val (.int po), .val (.int cc), .val (.int ls), .val (.long ch), .second, .val (.int (1 : Int32)), .val (.ref nb1), .unset, .unset, .unset, .unset, .unset] [])
      refine own_st (fun t_ k_ => XS.iload X15.here hx rfl (hb hby at_168) rfl k_) ?_
      show own_Go p e below _ T15 (mkF m 170 #[.val (.int mo), .val (.int po), .val (.int cc), .val (.int ls), .val (.long ch), .second, .val (.int (1 : Int32)), .val (.ref nb1), .unset, .unset, .unset, .unset, .unset] [(.int (1 : Int32))])
      refine own_st (fun t_ k_ => XS.iconst X15.here hx rfl (hb hby at_170) k_) ?_
      show own_Go p e below _ T15 (mkF m 171 #[.val (.int mo), .val (.int po), .val (.int cc), .val (.int ls), .val (.long ch), .second, .val (.int (1 : Int32)), .val (.ref nb1), .unset, .unset, .unset, .unset, .unset] [(.int (1 : Int32)), (.int (1 : Int32))])
      refine own_st (fun t_ k_ => XS.icmpNo X15.here hx rfl (hb hby at_171) rfl (by decide) k_) ?_
      show own_Go p e below _ T15 (mkF m 174 #[.val (.int mo), .val (.int po), .val (.int cc), .val (.int ls), .val (.long ch), .second, .val (.int (1 : Int32)), .val (.ref nb1), .unset, .unset, .unset, .unset, .unset] [])
      refine own_st (fun t_ k_ => XS.aload X15.here hx rfl (hb hby at_174) rfl rfl k_) ?_
      show own_Go p e below _ T15 (mkF m 176 #[.val (.int mo), .val (.int po), .val (.int cc), .val (.int ls), .val (.long ch), .second, .val (.int (1 : Int32)), .val (.ref nb1), .unset, .unset, .unset, .unset, .unset] [(.ref nb1)])
      refine own_st (fun t_ k_ => XS.iconst X15.here hx rfl (hb hby at_176) k_) ?_
      show own_Go p e below _ T15 (mkF m 177 #[.val (.int mo), .val (.int po), .val (.int cc), .val (.int ls), .val (.long ch), .second, .val (.int (1 : Int32)), .val (.ref nb1), .unset, .unset, .unset, .unset, .unset] [(.int (0 : Int32)), (.ref nb1)])
      refine own_st (fun t_ k_ => XS.bipush X15.here hx rfl (hb hby at_177) k_) ?_
      show own_Go p e below _ T15 (mkF m 179 #[.val (.int mo), .val (.int po), .val (.int cc), .val (.int ls), .val (.long ch), .second, .val (.int (1 : Int32)), .val (.ref nb1), .unset, .unset, .unset, .unset, .unset] [(.int (115 : Int32)), (.int (0 : Int32)), (.ref nb1)])
      obtain ⟨cl25, Ar25, q25, S25, N25', H25, G25⟩ := id V15
      have hin25 : ¬ ((0 : Int32) < 0 ∨ cl25.slots.size ≤ ((0 : Int32)).toNatClampNeg) := inb_of S25 ⟨by decide, by decide⟩
      obtain ⟨T25, h25, X25, e25, W25, st25⟩ := stC X15 hx hZ e15 Ar25 (j := (0 : Int32)) hin25 (g := (mkF m 179 #[.val (.int mo), .val (.int po), .val (.int cc), .val (.int ls), .val (.long ch), .second, .val (.int (1 : Int32)), .val (.ref nb1), .unset, .unset, .unset, .unset, .unset] [(.int (115 : Int32)), (.int (0 : Int32)), (.ref nb1)])) rfl rfl (hb hby at_179)
      have V25 : Arv Z h25 nb1 k1 .char (8 : Int32) [(.int (115 : Int32)), (.int (nar .char (((((ch.toUInt64 >>> ((8 : Int32) &&& 0x3f).toInt64.toUInt64).toInt64) &&& (255 : Int64)).toInt32).toUInt32.toUInt16.toUInt32.toInt32))), (.int (nar .char (((((ch.toUInt64 >>> ((16 : Int32) &&& 0x3f).toInt64.toUInt64).toInt64) &&& (255 : Int64)).toInt32).toUInt32.toUInt16.toUInt32.toInt32))), (.int (nar .char (((((ch.toUInt64 >>> ((24 : Int32) &&& 0x3f).toInt64.toUInt64).toInt64) &&& (255 : Int64)).toInt32).toUInt32.toUInt16.toUInt32.toInt32))), (.int (nar .char (((((ch.toUInt64 >>> ((32 : Int32) &&& 0x3f).toInt64.toUInt64).toInt64) &&& (255 : Int64)).toInt32).toUInt32.toUInt16.toUInt32.toInt32))), (.int (nar .char (((((ch.toUInt64 >>> ((40 : Int32) &&& 0x3f).toInt64.toUInt64).toInt64) &&& (255 : Int64)).toInt32).toUInt32.toUInt16.toUInt32.toInt32))), (.int (nar .char (((((ch.toUInt64 >>> ((48 : Int32) &&& 0x3f).toInt64.toUInt64).toInt64) &&& (255 : Int64)).toInt32).toUInt32.toUInt16.toUInt32.toInt32))), (.int (nar .char (((((ch.toUInt64 >>> ((56 : Int32) &&& 0x3f).toInt64.toUInt64).toInt64) &&& (255 : Int64)).toInt32).toUInt32.toUInt16.toUInt32.toInt32)))] (.int (0 : Int32)) := Arv.set Ar25 q25 S25 N25' H25 G25 (fits_nar_char _) W25 0 rfl (Nat.le_of_ble_eq_true rfl)
      refine own_st st25 ?_
      have f26 := (Safe.wr W15 Sw15 (own_Bk.ch B13) f16)
      have Sw25 := f26
      have B25 := own_Bk.wr W25 Sw25 B15
      have N25 := Fr.snoc X25 N15 g_nb1
      have K25 : Keep h0 h25 [] := K15.wr W25 (Or.inr sz_nb1)
      show own_Go p e below _ T25 (mkF m 180 #[.val (.int mo), .val (.int po), .val (.int cc), .val (.int ls), .val (.long ch), .second, .val (.int (1 : Int32)), .val (.ref nb1), .unset, .unset, .unset, .unset, .unset] [])
      refine own_st (fun t_ k_ => XS.aload X25.here hx rfl (hb hby at_180) rfl rfl k_) ?_
      show own_Go p e below _ T25 (mkF m 182 #[.val (.int mo), .val (.int po), .val (.int cc), .val (.int ls), .val (.long ch), .second, .val (.int (1 : Int32)), .val (.ref nb1), .unset, .unset, .unset, .unset, .unset] [(.ref nb1)])
      refine own_st (fun t_ k_ => XS.iconst X25.here hx rfl (hb hby at_182) k_) ?_
      show own_Go p e below _ T25 (mkF m 183 #[.val (.int mo), .val (.int po), .val (.int cc), .val (.int ls), .val (.long ch), .second, .val (.int (1 : Int32)), .val (.ref nb1), .unset, .unset, .unset, .unset, .unset] [(.int (1 : Int32)), (.ref nb1)])
      refine own_st (fun t_ k_ => XS.bipush X25.here hx rfl (hb hby at_183) k_) ?_
      show own_Go p e below _ T25 (mkF m 185 #[.val (.int mo), .val (.int po), .val (.int cc), .val (.int ls), .val (.long ch), .second, .val (.int (1 : Int32)), .val (.ref nb1), .unset, .unset, .unset, .unset, .unset] [(.int (101 : Int32)), (.int (1 : Int32)), (.ref nb1)])
      obtain ⟨cl27, Ar27, q27, S27, N27', H27, G27⟩ := id V25
      have hin27 : ¬ ((1 : Int32) < 0 ∨ cl27.slots.size ≤ ((1 : Int32)).toNatClampNeg) := inb_of S27 ⟨by decide, by decide⟩
      obtain ⟨T27, h27, X27, e27, W27, st27⟩ := stC X25 hx hZ e25 Ar27 (j := (1 : Int32)) hin27 (g := (mkF m 185 #[.val (.int mo), .val (.int po), .val (.int cc), .val (.int ls), .val (.long ch), .second, .val (.int (1 : Int32)), .val (.ref nb1), .unset, .unset, .unset, .unset, .unset] [(.int (101 : Int32)), (.int (1 : Int32)), (.ref nb1)])) rfl rfl (hb hby at_185)
      have V27 : Arv Z h27 nb1 k1 .char (8 : Int32) [(.int (115 : Int32)), (.int (101 : Int32)), (.int (nar .char (((((ch.toUInt64 >>> ((16 : Int32) &&& 0x3f).toInt64.toUInt64).toInt64) &&& (255 : Int64)).toInt32).toUInt32.toUInt16.toUInt32.toInt32))), (.int (nar .char (((((ch.toUInt64 >>> ((24 : Int32) &&& 0x3f).toInt64.toUInt64).toInt64) &&& (255 : Int64)).toInt32).toUInt32.toUInt16.toUInt32.toInt32))), (.int (nar .char (((((ch.toUInt64 >>> ((32 : Int32) &&& 0x3f).toInt64.toUInt64).toInt64) &&& (255 : Int64)).toInt32).toUInt32.toUInt16.toUInt32.toInt32))), (.int (nar .char (((((ch.toUInt64 >>> ((40 : Int32) &&& 0x3f).toInt64.toUInt64).toInt64) &&& (255 : Int64)).toInt32).toUInt32.toUInt16.toUInt32.toInt32))), (.int (nar .char (((((ch.toUInt64 >>> ((48 : Int32) &&& 0x3f).toInt64.toUInt64).toInt64) &&& (255 : Int64)).toInt32).toUInt32.toUInt16.toUInt32.toInt32))), (.int (nar .char (((((ch.toUInt64 >>> ((56 : Int32) &&& 0x3f).toInt64.toUInt64).toInt64) &&& (255 : Int64)).toInt32).toUInt32.toUInt16.toUInt32.toInt32)))] (.int (0 : Int32)) := Arv.set Ar27 q27 S27 N27' H27 G27 (fits_nar_char _) W27 1 rfl (Nat.le_of_ble_eq_true rfl)
      refine own_st st27 ?_
      have f28 := (Safe.wr W25 Sw25 (own_Bk.ch B15) f26)
      have Sw27 := f28
      have B27 := own_Bk.wr W27 Sw27 B25
      have N27 := Fr.snoc X27 N25 g_nb1
      have K27 : Keep h0 h27 [] := K25.wr W27 (Or.inr sz_nb1)
      show own_Go p e below _ T27 (mkF m 186 #[.val (.int mo), .val (.int po), .val (.int cc), .val (.int ls), .val (.long ch), .second, .val (.int (1 : Int32)), .val (.ref nb1), .unset, .unset, .unset, .unset, .unset] [])
      refine own_st (fun t_ k_ => XS.aload X27.here hx rfl (hb hby at_186) rfl rfl k_) ?_
      show own_Go p e below _ T27 (mkF m 188 #[.val (.int mo), .val (.int po), .val (.int cc), .val (.int ls), .val (.long ch), .second, .val (.int (1 : Int32)), .val (.ref nb1), .unset, .unset, .unset, .unset, .unset] [(.ref nb1)])
      refine own_st (fun t_ k_ => XS.iconst X27.here hx rfl (hb hby at_188) k_) ?_
      show own_Go p e below _ T27 (mkF m 189 #[.val (.int mo), .val (.int po), .val (.int cc), .val (.int ls), .val (.long ch), .second, .val (.int (1 : Int32)), .val (.ref nb1), .unset, .unset, .unset, .unset, .unset] [(.int (2 : Int32)), (.ref nb1)])
      refine own_st (fun t_ k_ => XS.bipush X27.here hx rfl (hb hby at_189) k_) ?_
      show own_Go p e below _ T27 (mkF m 191 #[.val (.int mo), .val (.int po), .val (.int cc), .val (.int ls), .val (.long ch), .second, .val (.int (1 : Int32)), .val (.ref nb1), .unset, .unset, .unset, .unset, .unset] [(.int (114 : Int32)), (.int (2 : Int32)), (.ref nb1)])
      obtain ⟨cl29, Ar29, q29, S29, N29', H29, G29⟩ := id V27
      have hin29 : ¬ ((2 : Int32) < 0 ∨ cl29.slots.size ≤ ((2 : Int32)).toNatClampNeg) := inb_of S29 ⟨by decide, by decide⟩
      obtain ⟨T29, h29, X29, e29, W29, st29⟩ := stC X27 hx hZ e27 Ar29 (j := (2 : Int32)) hin29 (g := (mkF m 191 #[.val (.int mo), .val (.int po), .val (.int cc), .val (.int ls), .val (.long ch), .second, .val (.int (1 : Int32)), .val (.ref nb1), .unset, .unset, .unset, .unset, .unset] [(.int (114 : Int32)), (.int (2 : Int32)), (.ref nb1)])) rfl rfl (hb hby at_191)
      have V29 : Arv Z h29 nb1 k1 .char (8 : Int32) [(.int (115 : Int32)), (.int (101 : Int32)), (.int (114 : Int32)), (.int (nar .char (((((ch.toUInt64 >>> ((24 : Int32) &&& 0x3f).toInt64.toUInt64).toInt64) &&& (255 : Int64)).toInt32).toUInt32.toUInt16.toUInt32.toInt32))), (.int (nar .char (((((ch.toUInt64 >>> ((32 : Int32) &&& 0x3f).toInt64.toUInt64).toInt64) &&& (255 : Int64)).toInt32).toUInt32.toUInt16.toUInt32.toInt32))), (.int (nar .char (((((ch.toUInt64 >>> ((40 : Int32) &&& 0x3f).toInt64.toUInt64).toInt64) &&& (255 : Int64)).toInt32).toUInt32.toUInt16.toUInt32.toInt32))), (.int (nar .char (((((ch.toUInt64 >>> ((48 : Int32) &&& 0x3f).toInt64.toUInt64).toInt64) &&& (255 : Int64)).toInt32).toUInt32.toUInt16.toUInt32.toInt32))), (.int (nar .char (((((ch.toUInt64 >>> ((56 : Int32) &&& 0x3f).toInt64.toUInt64).toInt64) &&& (255 : Int64)).toInt32).toUInt32.toUInt16.toUInt32.toInt32)))] (.int (0 : Int32)) := Arv.set Ar29 q29 S29 N29' H29 G29 (fits_nar_char _) W29 2 rfl (Nat.le_of_ble_eq_true rfl)
      refine own_st st29 ?_
      have f30 := (Safe.wr W27 Sw27 (own_Bk.ch B25) f28)
      have Sw29 := f30
      have B29 := own_Bk.wr W29 Sw29 B27
      have N29 := Fr.snoc X29 N27 g_nb1
      have K29 : Keep h0 h29 [] := K27.wr W29 (Or.inr sz_nb1)
      show own_Go p e below _ T29 (mkF m 192 #[.val (.int mo), .val (.int po), .val (.int cc), .val (.int ls), .val (.long ch), .second, .val (.int (1 : Int32)), .val (.ref nb1), .unset, .unset, .unset, .unset, .unset] [])
      refine own_st (fun t_ k_ => XS.aload X29.here hx rfl (hb hby at_192) rfl rfl k_) ?_
      show own_Go p e below _ T29 (mkF m 194 #[.val (.int mo), .val (.int po), .val (.int cc), .val (.int ls), .val (.long ch), .second, .val (.int (1 : Int32)), .val (.ref nb1), .unset, .unset, .unset, .unset, .unset] [(.ref nb1)])
      refine own_st (fun t_ k_ => XS.iconst X29.here hx rfl (hb hby at_194) k_) ?_
      show own_Go p e below _ T29 (mkF m 195 #[.val (.int mo), .val (.int po), .val (.int cc), .val (.int ls), .val (.long ch), .second, .val (.int (1 : Int32)), .val (.ref nb1), .unset, .unset, .unset, .unset, .unset] [(.int (3 : Int32)), (.ref nb1)])
      refine own_st (fun t_ k_ => XS.bipush X29.here hx rfl (hb hby at_195) k_) ?_
      show own_Go p e below _ T29 (mkF m 197 #[.val (.int mo), .val (.int po), .val (.int cc), .val (.int ls), .val (.long ch), .second, .val (.int (1 : Int32)), .val (.ref nb1), .unset, .unset, .unset, .unset, .unset] [(.int (118 : Int32)), (.int (3 : Int32)), (.ref nb1)])
      obtain ⟨cl31, Ar31, q31, S31, N31', H31, G31⟩ := id V29
      have hin31 : ¬ ((3 : Int32) < 0 ∨ cl31.slots.size ≤ ((3 : Int32)).toNatClampNeg) := inb_of S31 ⟨by decide, by decide⟩
      obtain ⟨T31, h31, X31, e31, W31, st31⟩ := stC X29 hx hZ e29 Ar31 (j := (3 : Int32)) hin31 (g := (mkF m 197 #[.val (.int mo), .val (.int po), .val (.int cc), .val (.int ls), .val (.long ch), .second, .val (.int (1 : Int32)), .val (.ref nb1), .unset, .unset, .unset, .unset, .unset] [(.int (118 : Int32)), (.int (3 : Int32)), (.ref nb1)])) rfl rfl (hb hby at_197)
      have V31 : Arv Z h31 nb1 k1 .char (8 : Int32) [(.int (115 : Int32)), (.int (101 : Int32)), (.int (114 : Int32)), (.int (118 : Int32)), (.int (nar .char (((((ch.toUInt64 >>> ((32 : Int32) &&& 0x3f).toInt64.toUInt64).toInt64) &&& (255 : Int64)).toInt32).toUInt32.toUInt16.toUInt32.toInt32))), (.int (nar .char (((((ch.toUInt64 >>> ((40 : Int32) &&& 0x3f).toInt64.toUInt64).toInt64) &&& (255 : Int64)).toInt32).toUInt32.toUInt16.toUInt32.toInt32))), (.int (nar .char (((((ch.toUInt64 >>> ((48 : Int32) &&& 0x3f).toInt64.toUInt64).toInt64) &&& (255 : Int64)).toInt32).toUInt32.toUInt16.toUInt32.toInt32))), (.int (nar .char (((((ch.toUInt64 >>> ((56 : Int32) &&& 0x3f).toInt64.toUInt64).toInt64) &&& (255 : Int64)).toInt32).toUInt32.toUInt16.toUInt32.toInt32)))] (.int (0 : Int32)) := Arv.set Ar31 q31 S31 N31' H31 G31 (fits_nar_char _) W31 3 rfl (Nat.le_of_ble_eq_true rfl)
      refine own_st st31 ?_
      have f32 := (Safe.wr W29 Sw29 (own_Bk.ch B27) f30)
      have Sw31 := f32
      have B31 := own_Bk.wr W31 Sw31 B29
      have N31 := Fr.snoc X31 N29 g_nb1
      have K31 : Keep h0 h31 [] := K29.wr W31 (Or.inr sz_nb1)
      show own_Go p e below _ T31 (mkF m 198 #[.val (.int mo), .val (.int po), .val (.int cc), .val (.int ls), .val (.long ch), .second, .val (.int (1 : Int32)), .val (.ref nb1), .unset, .unset, .unset, .unset, .unset] [])
      refine own_st (fun t_ k_ => XS.aload X31.here hx rfl (hb hby at_198) rfl rfl k_) ?_
      show own_Go p e below _ T31 (mkF m 200 #[.val (.int mo), .val (.int po), .val (.int cc), .val (.int ls), .val (.long ch), .second, .val (.int (1 : Int32)), .val (.ref nb1), .unset, .unset, .unset, .unset, .unset] [(.ref nb1)])
      refine own_st (fun t_ k_ => XS.iconst X31.here hx rfl (hb hby at_200) k_) ?_
      show own_Go p e below _ T31 (mkF m 201 #[.val (.int mo), .val (.int po), .val (.int cc), .val (.int ls), .val (.long ch), .second, .val (.int (1 : Int32)), .val (.ref nb1), .unset, .unset, .unset, .unset, .unset] [(.int (4 : Int32)), (.ref nb1)])
      refine own_st (fun t_ k_ => XS.bipush X31.here hx rfl (hb hby at_201) k_) ?_
      show own_Go p e below _ T31 (mkF m 203 #[.val (.int mo), .val (.int po), .val (.int cc), .val (.int ls), .val (.long ch), .second, .val (.int (1 : Int32)), .val (.ref nb1), .unset, .unset, .unset, .unset, .unset] [(.int (105 : Int32)), (.int (4 : Int32)), (.ref nb1)])
      obtain ⟨cl33, Ar33, q33, S33, N33', H33, G33⟩ := id V31
      have hin33 : ¬ ((4 : Int32) < 0 ∨ cl33.slots.size ≤ ((4 : Int32)).toNatClampNeg) := inb_of S33 ⟨by decide, by decide⟩
      obtain ⟨T33, h33, X33, e33, W33, st33⟩ := stC X31 hx hZ e31 Ar33 (j := (4 : Int32)) hin33 (g := (mkF m 203 #[.val (.int mo), .val (.int po), .val (.int cc), .val (.int ls), .val (.long ch), .second, .val (.int (1 : Int32)), .val (.ref nb1), .unset, .unset, .unset, .unset, .unset] [(.int (105 : Int32)), (.int (4 : Int32)), (.ref nb1)])) rfl rfl (hb hby at_203)
      have V33 : Arv Z h33 nb1 k1 .char (8 : Int32) [(.int (115 : Int32)), (.int (101 : Int32)), (.int (114 : Int32)), (.int (118 : Int32)), (.int (105 : Int32)), (.int (nar .char (((((ch.toUInt64 >>> ((40 : Int32) &&& 0x3f).toInt64.toUInt64).toInt64) &&& (255 : Int64)).toInt32).toUInt32.toUInt16.toUInt32.toInt32))), (.int (nar .char (((((ch.toUInt64 >>> ((48 : Int32) &&& 0x3f).toInt64.toUInt64).toInt64) &&& (255 : Int64)).toInt32).toUInt32.toUInt16.toUInt32.toInt32))), (.int (nar .char (((((ch.toUInt64 >>> ((56 : Int32) &&& 0x3f).toInt64.toUInt64).toInt64) &&& (255 : Int64)).toInt32).toUInt32.toUInt16.toUInt32.toInt32)))] (.int (0 : Int32)) := Arv.set Ar33 q33 S33 N33' H33 G33 (fits_nar_char _) W33 4 rfl (Nat.le_of_ble_eq_true rfl)
      refine own_st st33 ?_
      have f34 := (Safe.wr W31 Sw31 (own_Bk.ch B29) f32)
      have Sw33 := f34
      have B33 := own_Bk.wr W33 Sw33 B31
      have N33 := Fr.snoc X33 N31 g_nb1
      have K33 : Keep h0 h33 [] := K31.wr W33 (Or.inr sz_nb1)
      show own_Go p e below _ T33 (mkF m 204 #[.val (.int mo), .val (.int po), .val (.int cc), .val (.int ls), .val (.long ch), .second, .val (.int (1 : Int32)), .val (.ref nb1), .unset, .unset, .unset, .unset, .unset] [])
      refine own_st (fun t_ k_ => XS.aload X33.here hx rfl (hb hby at_204) rfl rfl k_) ?_
      show own_Go p e below _ T33 (mkF m 206 #[.val (.int mo), .val (.int po), .val (.int cc), .val (.int ls), .val (.long ch), .second, .val (.int (1 : Int32)), .val (.ref nb1), .unset, .unset, .unset, .unset, .unset] [(.ref nb1)])
      refine own_st (fun t_ k_ => XS.iconst X33.here hx rfl (hb hby at_206) k_) ?_
      show own_Go p e below _ T33 (mkF m 207 #[.val (.int mo), .val (.int po), .val (.int cc), .val (.int ls), .val (.long ch), .second, .val (.int (1 : Int32)), .val (.ref nb1), .unset, .unset, .unset, .unset, .unset] [(.int (5 : Int32)), (.ref nb1)])
      refine own_st (fun t_ k_ => XS.bipush X33.here hx rfl (hb hby at_207) k_) ?_
      show own_Go p e below _ T33 (mkF m 209 #[.val (.int mo), .val (.int po), .val (.int cc), .val (.int ls), .val (.long ch), .second, .val (.int (1 : Int32)), .val (.ref nb1), .unset, .unset, .unset, .unset, .unset] [(.int (99 : Int32)), (.int (5 : Int32)), (.ref nb1)])
      obtain ⟨cl35, Ar35, q35, S35, N35', H35, G35⟩ := id V33
      have hin35 : ¬ ((5 : Int32) < 0 ∨ cl35.slots.size ≤ ((5 : Int32)).toNatClampNeg) := inb_of S35 ⟨by decide, by decide⟩
      obtain ⟨T35, h35, X35, e35, W35, st35⟩ := stC X33 hx hZ e33 Ar35 (j := (5 : Int32)) hin35 (g := (mkF m 209 #[.val (.int mo), .val (.int po), .val (.int cc), .val (.int ls), .val (.long ch), .second, .val (.int (1 : Int32)), .val (.ref nb1), .unset, .unset, .unset, .unset, .unset] [(.int (99 : Int32)), (.int (5 : Int32)), (.ref nb1)])) rfl rfl (hb hby at_209)
      have V35 : Arv Z h35 nb1 k1 .char (8 : Int32) [(.int (115 : Int32)), (.int (101 : Int32)), (.int (114 : Int32)), (.int (118 : Int32)), (.int (105 : Int32)), (.int (99 : Int32)), (.int (nar .char (((((ch.toUInt64 >>> ((48 : Int32) &&& 0x3f).toInt64.toUInt64).toInt64) &&& (255 : Int64)).toInt32).toUInt32.toUInt16.toUInt32.toInt32))), (.int (nar .char (((((ch.toUInt64 >>> ((56 : Int32) &&& 0x3f).toInt64.toUInt64).toInt64) &&& (255 : Int64)).toInt32).toUInt32.toUInt16.toUInt32.toInt32)))] (.int (0 : Int32)) := Arv.set Ar35 q35 S35 N35' H35 G35 (fits_nar_char _) W35 5 rfl (Nat.le_of_ble_eq_true rfl)
      refine own_st st35 ?_
      have f36 := (Safe.wr W33 Sw33 (own_Bk.ch B31) f34)
      have Sw35 := f36
      have B35 := own_Bk.wr W35 Sw35 B33
      have N35 := Fr.snoc X35 N33 g_nb1
      have K35 : Keep h0 h35 [] := K33.wr W35 (Or.inr sz_nb1)
      show own_Go p e below _ T35 (mkF m 210 #[.val (.int mo), .val (.int po), .val (.int cc), .val (.int ls), .val (.long ch), .second, .val (.int (1 : Int32)), .val (.ref nb1), .unset, .unset, .unset, .unset, .unset] [])
      refine own_st (fun t_ k_ => XS.aload X35.here hx rfl (hb hby at_210) rfl rfl k_) ?_
      show own_Go p e below _ T35 (mkF m 212 #[.val (.int mo), .val (.int po), .val (.int cc), .val (.int ls), .val (.long ch), .second, .val (.int (1 : Int32)), .val (.ref nb1), .unset, .unset, .unset, .unset, .unset] [(.ref nb1)])
      refine own_st (fun t_ k_ => XS.bipush X35.here hx rfl (hb hby at_212) k_) ?_
      show own_Go p e below _ T35 (mkF m 214 #[.val (.int mo), .val (.int po), .val (.int cc), .val (.int ls), .val (.long ch), .second, .val (.int (1 : Int32)), .val (.ref nb1), .unset, .unset, .unset, .unset, .unset] [(.int (6 : Int32)), (.ref nb1)])
      refine own_st (fun t_ k_ => XS.bipush X35.here hx rfl (hb hby at_214) k_) ?_
      show own_Go p e below _ T35 (mkF m 216 #[.val (.int mo), .val (.int po), .val (.int cc), .val (.int ls), .val (.long ch), .second, .val (.int (1 : Int32)), .val (.ref nb1), .unset, .unset, .unset, .unset, .unset] [(.int (101 : Int32)), (.int (6 : Int32)), (.ref nb1)])
      obtain ⟨cl37, Ar37, q37, S37, N37', H37, G37⟩ := id V35
      have hin37 : ¬ ((6 : Int32) < 0 ∨ cl37.slots.size ≤ ((6 : Int32)).toNatClampNeg) := inb_of S37 ⟨by decide, by decide⟩
      obtain ⟨T37, h37, X37, e37, W37, st37⟩ := stC X35 hx hZ e35 Ar37 (j := (6 : Int32)) hin37 (g := (mkF m 216 #[.val (.int mo), .val (.int po), .val (.int cc), .val (.int ls), .val (.long ch), .second, .val (.int (1 : Int32)), .val (.ref nb1), .unset, .unset, .unset, .unset, .unset] [(.int (101 : Int32)), (.int (6 : Int32)), (.ref nb1)])) rfl rfl (hb hby at_216)
      have V37 : Arv Z h37 nb1 k1 .char (8 : Int32) [(.int (115 : Int32)), (.int (101 : Int32)), (.int (114 : Int32)), (.int (118 : Int32)), (.int (105 : Int32)), (.int (99 : Int32)), (.int (101 : Int32)), (.int (nar .char (((((ch.toUInt64 >>> ((56 : Int32) &&& 0x3f).toInt64.toUInt64).toInt64) &&& (255 : Int64)).toInt32).toUInt32.toUInt16.toUInt32.toInt32)))] (.int (0 : Int32)) := Arv.set Ar37 q37 S37 N37' H37 G37 (fits_nar_char _) W37 6 rfl (Nat.le_of_ble_eq_true rfl)
      refine own_st st37 ?_
      have f38 := (Safe.wr W35 Sw35 (own_Bk.ch B33) f36)
      have Sw37 := f38
      have B37 := own_Bk.wr W37 Sw37 B35
      have N37 := Fr.snoc X37 N35 g_nb1
      have K37 : Keep h0 h37 [] := K35.wr W37 (Or.inr sz_nb1)
      show own_Go p e below _ T37 (mkF m 217 #[.val (.int mo), .val (.int po), .val (.int cc), .val (.int ls), .val (.long ch), .second, .val (.int (1 : Int32)), .val (.ref nb1), .unset, .unset, .unset, .unset, .unset] [])
      refine own_st (fun t_ k_ => XS.bipush X37.here hx rfl (hb hby at_217) k_) ?_
      show own_Go p e below _ T37 (mkF m 219 #[.val (.int mo), .val (.int po), .val (.int cc), .val (.int ls), .val (.long ch), .second, .val (.int (1 : Int32)), .val (.ref nb1), .unset, .unset, .unset, .unset, .unset] [(.int (7 : Int32))])
      refine own_st (fun t_ k_ => XS.istore X37.here hx rfl (hb hby at_219) rfl (l' := #[.val (.int mo), .val (.int po), .val (.int cc), .val (.int ls), .val (.long ch), .second, .val (.int (1 : Int32)), .val (.ref nb1), .val (.int (7 : Int32)), .unset, .unset, .unset, .unset]) rfl k_) ?_
      show own_Go p e below _ T37 (mkF m 221 #[.val (.int mo), .val (.int po), .val (.int cc), .val (.int ls), .val (.long ch), .second, .val (.int (1 : Int32)), .val (.ref nb1), .val (.int (7 : Int32)), .unset, .unset, .unset, .unset] [])
      refine own_st (fun t_ k_ => XS.goto X37.here hx rfl (pc0 := 221) (pc' := 235) rfl (hb hby at_221) (by decide) (by decide) k_) ?_
      show own_Go p e below _ T37 (mkF m 235 #[.val (.int mo), .val (.int po), .val (.int cc), .val (.int ls), .val (.long ch), .second, .val (.int (1 : Int32)), .val (.ref nb1), .val (.int (7 : Int32)), .unset, .unset, .unset, .unset] [])
      exact J235 (115 : Int32) (101 : Int32) (114 : Int32) (118 : Int32) (105 : Int32) (99 : Int32) (101 : Int32) (nar .char (((((ch.toUInt64 >>> ((56 : Int32) &&& 0x3f).toInt64.toUInt64).toInt64) &&& (255 : Int64)).toInt32).toUInt32.toUInt16.toUInt32.toInt32)) (7 : Int32) _ _ _ X37 e37 N37 K37 B37 V37 ⟨⟨by decide, by decide⟩, ⟨by decide, by decide⟩, ⟨by decide, by decide⟩, ⟨by decide, by decide⟩, ⟨by decide, by decide⟩, ⟨by decide, by decide⟩, ⟨by decide, by decide⟩, (own_pickL _)⟩ (Or.inr (Or.inr (Or.inr (Or.inr (Or.inr (Or.inr (Or.inr (Or.inl rfl))))))))
    · show own_Go p e below _ T15 (mkF m 133 #[.val (.int mo), .val (.int po), .val (.int cc), .val (.int ls), .val (.long ch), .second, .val (.int (2 : Int32)), .val (.ref nb1), .unset, .unset, .unset, .unset, .unset] [])
      refine own_st (fun t_ k_ => XS.iload X15.here hx rfl (hb hby at_133) rfl k_) ?_
      show own_Go p e below _ T15 (mkF m 135 #[.val (.int mo), .val (.int po), .val (.int cc), .val (.int ls), .val (.long ch), .second, .val (.int (2 : Int32)), .val (.ref nb1), .unset, .unset, .unset, .unset, .unset] [(.int (2 : Int32))])
      refine own_st (fun t_ k_ => XS.ifYes X15.here hx rfl (pc0 := 135) (pc' := 168) rfl (hb hby at_135) rfl (by decide) (by decide) (by decide) k_) ?_
      show own_Go p e below _ T15 (mkF m 168 #[.val (.int mo), .val (.int po), .val (.int cc), .val (.int ls), .val (.long ch), .second, .val (.int (2 : Int32)), .val (.ref nb1), .unset, .unset, .unset, .unset, .unset] [])
      refine own_st (fun t_ k_ => XS.iload X15.here hx rfl (hb hby at_168) rfl k_) ?_
      show own_Go p e below _ T15 (mkF m 170 #[.val (.int mo), .val (.int po), .val (.int cc), .val (.int ls), .val (.long ch), .second, .val (.int (2 : Int32)), .val (.ref nb1), .unset, .unset, .unset, .unset, .unset] [(.int (2 : Int32))])
      refine own_st (fun t_ k_ => XS.iconst X15.here hx rfl (hb hby at_170) k_) ?_
      show own_Go p e below _ T15 (mkF m 171 #[.val (.int mo), .val (.int po), .val (.int cc), .val (.int ls), .val (.long ch), .second, .val (.int (2 : Int32)), .val (.ref nb1), .unset, .unset, .unset, .unset, .unset] [(.int (1 : Int32)), (.int (2 : Int32))])
      refine own_st (fun t_ k_ => XS.icmpYes X15.here hx rfl (pc0 := 171) (pc' := 224) rfl (hb hby at_171) rfl (by decide) (by decide) (by decide) k_) ?_
      show own_Go p e below _ T15 (mkF m 224 #[.val (.int mo), .val (.int po), .val (.int cc), .val (.int ls), .val (.long ch), .second, .val (.int (2 : Int32)), .val (.ref nb1), .unset, .unset, .unset, .unset, .unset] [])
      refine own_st (fun t_ k_ => XS.iloadN X15.here hx rfl (hb hby at_224) rfl k_) ?_
      show own_Go p e below _ T15 (mkF m 225 #[.val (.int mo), .val (.int po), .val (.int cc), .val (.int ls), .val (.long ch), .second, .val (.int (2 : Int32)), .val (.ref nb1), .unset, .unset, .unset, .unset, .unset] [(.int ls)])
      refine own_st (fun t_ k_ => XS.bipush X15.here hx rfl (hb hby at_225) k_) ?_
      show own_Go p e below _ T15 (mkF m 227 #[.val (.int mo), .val (.int po), .val (.int cc), .val (.int ls), .val (.long ch), .second, .val (.int (2 : Int32)), .val (.ref nb1), .unset, .unset, .unset, .unset, .unset] [(.int (15 : Int32)), (.int ls)])
      refine own_st (fun t_ k_ => XS.iand X15.here hx rfl (hb hby at_227) rfl k_) ?_
      show own_Go p e below _ T15 (mkF m 228 #[.val (.int mo), .val (.int po), .val (.int cc), .val (.int ls), .val (.long ch), .second, .val (.int (2 : Int32)), .val (.ref nb1), .unset, .unset, .unset, .unset, .unset] [(.int (ls &&& (15 : Int32)))])
      refine own_st (fun t_ k_ => XS.bipush X15.here hx rfl (hb hby at_228) k_) ?_
      show own_Go p e below _ T15 (mkF m 230 #[.val (.int mo), .val (.int po), .val (.int cc), .val (.int ls), .val (.long ch), .second, .val (.int (2 : Int32)), .val (.ref nb1), .unset, .unset, .unset, .unset, .unset] [(.int (8 : Int32)), (.int (ls &&& (15 : Int32)))])
      refine own_callS X15 hx (y := (⟨"java/lang/Math", "min", "(II)I"⟩ : MethodName)) hown (mvT hZ (hw _ (List.mem_of_getElem? (i := 98) rfl))) (mvT hZ (hw _ (List.mem_of_getElem? (i := 99) rfl))) (mvT hZ (hw _ (List.mem_of_getElem? (i := 100) rfl))) (mvT hZ (hw _ (List.mem_of_getElem? (i := 101) rfl))) (by decide) (backOf (W := 0) (rmMI l Z a0 hw [] (ls &&& (15 : Int32)) h15 n0 (Nat.le_trans Z0 K15.1) (c_and _ (15 : Int32) (by decide)).1) hZ (hw _ (List.mem_of_getElem? (i := 101) rfl)) (hw _ (List.mem_of_getElem? (i := 100) rfl)) (by decide) (by decide)) (g := (mkF m 230 #[.val (.int mo), .val (.int po), .val (.int cc), .val (.int ls), .val (.long ch), .second, .val (.int (2 : Int32)), .val (.ref nb1), .unset, .unset, .unset, .unset, .unset] [(.int (8 : Int32)), (.int (ls &&& (15 : Int32)))])) rfl (by rw [hml]; rfl) (argsL := [(.int (ls &&& (15 : Int32))), (.int (8 : Int32))]) (rest := []) (lenOf pd_8 rfl) rfl (by show 2 * 0 + _ ≤ _; exact Nat.le_of_eq rfl) (hb hby at_230) rfl e15 (by decide) (by decide) ?_
      rintro v39 T39 L39 X39 ⟨r39, rfl, Nq39, hh39, h9_39⟩
      have N39 := Fr.app N15 Nq39
      show own_Go p e below _ T39 (mkF m 233 #[.val (.int mo), .val (.int po), .val (.int cc), .val (.int ls), .val (.long ch), .second, .val (.int (2 : Int32)), .val (.ref nb1), .unset, .unset, .unset, .unset, .unset] [(.int r39)])
      refine own_st (fun t_ k_ => XS.istore X39.here hx rfl (hb hby at_233) rfl (l' := #[.val (.int mo), .val (.int po), .val (.int cc), .val (.int ls), .val (.long ch), .second, .val (.int (2 : Int32)), .val (.ref nb1), .val (.int r39), .unset, .unset, .unset, .unset]) rfl k_) ?_
      show own_Go p e below _ T39 (mkF m 235 #[.val (.int mo), .val (.int po), .val (.int cc), .val (.int ls), .val (.long ch), .second, .val (.int (2 : Int32)), .val (.ref nb1), .val (.int r39), .unset, .unset, .unset, .unset] [])
      exact J235 (nar .char (((ch &&& (255 : Int64)).toInt32).toUInt32.toUInt16.toUInt32.toInt32)) (nar .char (((((ch.toUInt64 >>> ((8 : Int32) &&& 0x3f).toInt64.toUInt64).toInt64) &&& (255 : Int64)).toInt32).toUInt32.toUInt16.toUInt32.toInt32)) (nar .char (((((ch.toUInt64 >>> ((16 : Int32) &&& 0x3f).toInt64.toUInt64).toInt64) &&& (255 : Int64)).toInt32).toUInt32.toUInt16.toUInt32.toInt32)) (nar .char (((((ch.toUInt64 >>> ((24 : Int32) &&& 0x3f).toInt64.toUInt64).toInt64) &&& (255 : Int64)).toInt32).toUInt32.toUInt16.toUInt32.toInt32)) (nar .char (((((ch.toUInt64 >>> ((32 : Int32) &&& 0x3f).toInt64.toUInt64).toInt64) &&& (255 : Int64)).toInt32).toUInt32.toUInt16.toUInt32.toInt32)) (nar .char (((((ch.toUInt64 >>> ((40 : Int32) &&& 0x3f).toInt64.toUInt64).toInt64) &&& (255 : Int64)).toInt32).toUInt32.toUInt16.toUInt32.toInt32)) (nar .char (((((ch.toUInt64 >>> ((48 : Int32) &&& 0x3f).toInt64.toUInt64).toInt64) &&& (255 : Int64)).toInt32).toUInt32.toUInt16.toUInt32.toInt32)) (nar .char (((((ch.toUInt64 >>> ((56 : Int32) &&& 0x3f).toInt64.toUInt64).toInt64) &&& (255 : Int64)).toInt32).toUInt32.toUInt16.toUInt32.toInt32)) r39 _ _ _ X39 hh39 N39 K15 B15 V15 ⟨(own_pickL _), (own_pickL _), (own_pickL _), (own_pickL _), (own_pickL _), (own_pickL _), (own_pickL _), (own_pickL _)⟩ h9_39
set_option maxRecDepth 65536 in
set_option maxHeartbeats 40000000 in
theorem comes_1 {Post : Tables → Env → Array Value → State → Outcome → State → Prop} (hpost : ∀ tb e args s v u, (limb_1_1.after args s (.returned v) u = true ∧ limb_1_2.after args s (.returned v) u = true ∧ True) → ReturnedEndW s (.returned v) u (Jvm.fieldLocs frame_1_writes args s ++ Jvm.arrayLocs frame_1_arrays args s ++ Jvm.staticLocs frame_1_statics s) 24 1152 → Post tb e args s (.returned v) u) :
    ArmFor flags0 classFile x code maxLocals ret World_1 tables_1 room_1 Calls_1 rest_1 Pre_1 Post := by
  intro l hfl _ _ p e ha hc hk s m args below hf hA hF happ hP
  obtain ⟨hcalls, hrest, hpre⟩ := hP
  obtain ⟨-, -, -, hnamed, -, -, -, hat⟩ := (Spec.applies_iff hf).mp happ
  obtain ⟨hg, hn⟩ := and_e (Cond.before_iff.mp (show (Jvm.Cond.and given_1 narrow_1).before args s = true from hpre))
  obtain ⟨g0, hg0⟩ := and_e hg
  obtain ⟨g1, hg1⟩ := and_e hg0
  obtain ⟨g2, hg2⟩ := and_e hg1
  obtain ⟨g3, hg3⟩ := and_e hg2
  obtain ⟨g4, hg4⟩ := and_e hg3
  obtain ⟨w0, w1, w2, w3, w4, rfl⟩ : ∃ w0 w1 w2 w3 w4 : Value, args = #[w0, w1, w2, w3, w4] := by
    have hs : args.size = 5 := by simpa [Cond.value, given_1] using g0
    obtain ⟨L⟩ := args
    match L, hs with
    | [w0, w1, w2, w3, w4], _ => exact ⟨w0, w1, w2, w3, w4, rfl⟩
  have hw := fun d (hd : d ∈ tables_1) => atoms_spec (ws := Jvm.Cond.code x code maxLocals ret :: tables_1) hat d (List.mem_cons_of_mem _ hd)
  have hfit : Fit s := fun {y c} hc i hi => by
    obtain ⟨ha, rfl⟩ := Array.getElem?_eq_some_iff.mp hc
    have q := List.all_eq_true.mp ((Array.all_eq_true_iff_forall_mem.mp hF) _ (Array.getElem_mem ha)) i (List.mem_range.mpr hi)
    simpa [Array.getElem?_eq_getElem hi] using q
  obtain ⟨hsets, hown0⟩ := atoms_of _ (rest_1_c_eq ▸ (show rest_1_c.before _ s = true from hrest))
  obtain ⟨i0, ei0⟩ := is_v g1
  obtain rfl : w0 = (.int i0) := Option.some.inj ei0
  obtain ⟨i1, ei1⟩ := is_v g2
  obtain rfl : w1 = (.int i1) := Option.some.inj ei1
  obtain ⟨i2, ei2⟩ := is_v g3
  obtain rfl : w2 = (.int i2) := Option.some.inj ei2
  obtain ⟨i3, ei3⟩ := is_v g4
  obtain rfl : w3 = (.int i3) := Option.some.inj ei3
  obtain ⟨i4, ei4⟩ := isL_v hg4
  obtain rfl : w4 = (.long i4) := Option.some.inj ei4
  obtain ⟨n0, hn0⟩ := and_e hn
  -- n0: ['Jvm.Cond.arrayOf', ['Jvm.Term.static', '"com/example/gentle_nudge/gentlenudge/server/AccountKind"', '"$VALUES"', '"[Lcom/example/gentle_nudge/gentlenudge/server/AccountKind;"'], ['Jvm.ClassFile.FieldType.object', '"com/example/gentle_nudge/gentlenudge/server/AccountKind"']]
  obtain ⟨n1, hn1⟩ := and_e hn0
  obtain ⟨a1, ev1⟩ := exa_v n1
  have Xa1 := Exa.start ev1 n1
  have Sa1 := Sta.start ev1 (Or.inr ⟨(hw _ (List.mem_of_getElem? (i := 38) rfl)), (hw _ (List.mem_of_getElem? (i := 44) rfl))⟩)
  obtain ⟨n2, hn2⟩ := and_e hn1
  -- n2: ['Jvm.Cond.eq', ['Jvm.Term.length', ['Jvm.Term.static', '"com/example/gentle_nudge/gentlenudge/server/AccountKind"', '"$VALUES"', '"[Lcom/example/gentle_nudge/gentlenudge/server/AccountKind;"']], ['Jvm.Term.int', ['2', ':', 'Int32']]]
  obtain ⟨n3, hn3⟩ := and_e hn2
  obtain ⟨a3, ev3⟩ := exa_v n3
  have Xa3 := Exa.start ev3 n3
  have Sa3 := Sta.start ev3 (Or.inr ⟨(hw _ (List.mem_of_getElem? (i := 38) rfl)), (hw _ (List.mem_of_getElem? (i := 52) rfl))⟩)
  obtain ⟨n4, hn4⟩ := and_e hn3
  -- n4: ['Jvm.Cond.eq', ['Jvm.Term.elem', ['Jvm.Term.static', '"com/example/gentle_nudge/gentlenudge/server/AccountKind"', '"$VALUES"', '"[Lcom/example/gentle_nudge/gentlenudge/server/AccountKind;"'], ['Jvm.Term.int', ['0', ':', 'Int32']]], ['Jvm.Term.static', '"com/example/gentle_nudge/gentlenudge/server/A
  obtain ⟨n5, hn5⟩ := and_e hn4
  obtain ⟨a5, ev5⟩ := exa_v n5
  have Xa5 := Exa.start ev5 n5
  have Sa5 := Sta.start ev5 (Or.inr ⟨(hw _ (List.mem_of_getElem? (i := 38) rfl)), (hw _ (List.mem_of_getElem? (i := 53) rfl))⟩)
  obtain ⟨n6, hn6⟩ := and_e hn5
  -- n6: ['Jvm.Cond.eq', ['Jvm.Term.elem', ['Jvm.Term.static', '"com/example/gentle_nudge/gentlenudge/server/AccountKind"', '"$VALUES"', '"[Lcom/example/gentle_nudge/gentlenudge/server/AccountKind;"'], ['Jvm.Term.int', ['1', ':', 'Int32']]], ['Jvm.Term.static', '"com/example/gentle_nudge/gentlenudge/server/A
  obtain ⟨n7, hn7⟩ := and_e hn6
  -- n7: ['Jvm.Cond.exactly', ['Jvm.Term.field', ['Jvm.Term.static', '"com/example/gentle_nudge/gentlenudge/server/AccountKind"', '"USER"', '"Lcom/example/gentle_nudge/gentlenudge/server/AccountKind;"'], '"com/example/gentle_nudge/gentlenudge/server/AccountKind"', '"wireName"', '"Ljava/lang/String;"'], '"jav
  obtain ⟨n8, hn8⟩ := and_e hn7
  -- n8: ['Jvm.Cond.eq', ['Jvm.Term.field', ['Jvm.Term.field', ['Jvm.Term.static', '"com/example/gentle_nudge/gentlenudge/server/AccountKind"', '"USER"', '"Lcom/example/gentle_nudge/gentlenudge/server/AccountKind;"'], '"com/example/gentle_nudge/gentlenudge/server/AccountKind"', '"wireName"', '"Ljava/lang/Str
  obtain ⟨n9, hn9⟩ := and_e hn8
  -- n9: ['Jvm.Cond.arrayOf', ['Jvm.Term.field', ['Jvm.Term.field', ['Jvm.Term.static', '"com/example/gentle_nudge/gentlenudge/server/AccountKind"', '"USER"', '"Lcom/example/gentle_nudge/gentlenudge/server/AccountKind;"'], '"com/example/gentle_nudge/gentlenudge/server/AccountKind"', '"wireName"', '"Ljava/lan
  obtain ⟨n10, hn10⟩ := and_e hn9
  -- n10: ['Jvm.Cond.eq', ['Jvm.Term.length', ['Jvm.Term.field', ['Jvm.Term.field', ['Jvm.Term.static', '"com/example/gentle_nudge/gentlenudge/server/AccountKind"', '"USER"', '"Lcom/example/gentle_nudge/gentlenudge/server/AccountKind;"'], '"com/example/gentle_nudge/gentlenudge/server/AccountKind"', '"wireName
  obtain ⟨n11, hn11⟩ := and_e hn10
  -- n11: ['Jvm.Cond.eq', ['Jvm.Term.elem', ['Jvm.Term.field', ['Jvm.Term.field', ['Jvm.Term.static', '"com/example/gentle_nudge/gentlenudge/server/AccountKind"', '"USER"', '"Lcom/example/gentle_nudge/gentlenudge/server/AccountKind;"'], '"com/example/gentle_nudge/gentlenudge/server/AccountKind"', '"wireName"'
  obtain ⟨n12, hn12⟩ := and_e hn11
  -- n12: ['Jvm.Cond.eq', ['Jvm.Term.elem', ['Jvm.Term.field', ['Jvm.Term.field', ['Jvm.Term.static', '"com/example/gentle_nudge/gentlenudge/server/AccountKind"', '"USER"', '"Lcom/example/gentle_nudge/gentlenudge/server/AccountKind;"'], '"com/example/gentle_nudge/gentlenudge/server/AccountKind"', '"wireName"'
  obtain ⟨n13, hn13⟩ := and_e hn12
  -- n13: ['Jvm.Cond.eq', ['Jvm.Term.elem', ['Jvm.Term.field', ['Jvm.Term.field', ['Jvm.Term.static', '"com/example/gentle_nudge/gentlenudge/server/AccountKind"', '"USER"', '"Lcom/example/gentle_nudge/gentlenudge/server/AccountKind;"'], '"com/example/gentle_nudge/gentlenudge/server/AccountKind"', '"wireName"'
  obtain ⟨n14, hn14⟩ := and_e hn13
  -- n14: ['Jvm.Cond.eq', ['Jvm.Term.elem', ['Jvm.Term.field', ['Jvm.Term.field', ['Jvm.Term.static', '"com/example/gentle_nudge/gentlenudge/server/AccountKind"', '"USER"', '"Lcom/example/gentle_nudge/gentlenudge/server/AccountKind;"'], '"com/example/gentle_nudge/gentlenudge/server/AccountKind"', '"wireName"'
  obtain ⟨n15, hn15⟩ := and_e hn14
  -- n15: ['Jvm.Cond.exactly', ['Jvm.Term.field', ['Jvm.Term.static', '"com/example/gentle_nudge/gentlenudge/server/AccountKind"', '"SERVICE"', '"Lcom/example/gentle_nudge/gentlenudge/server/AccountKind;"'], '"com/example/gentle_nudge/gentlenudge/server/AccountKind"', '"wireName"', '"Ljava/lang/String;"'], '"
  obtain ⟨n16, hn16⟩ := and_e hn15
  -- n16: ['Jvm.Cond.eq', ['Jvm.Term.field', ['Jvm.Term.field', ['Jvm.Term.static', '"com/example/gentle_nudge/gentlenudge/server/AccountKind"', '"SERVICE"', '"Lcom/example/gentle_nudge/gentlenudge/server/AccountKind;"'], '"com/example/gentle_nudge/gentlenudge/server/AccountKind"', '"wireName"', '"Ljava/lang/
  obtain ⟨n17, hn17⟩ := and_e hn16
  -- n17: ['Jvm.Cond.arrayOf', ['Jvm.Term.field', ['Jvm.Term.field', ['Jvm.Term.static', '"com/example/gentle_nudge/gentlenudge/server/AccountKind"', '"SERVICE"', '"Lcom/example/gentle_nudge/gentlenudge/server/AccountKind;"'], '"com/example/gentle_nudge/gentlenudge/server/AccountKind"', '"wireName"', '"Ljava/
  obtain ⟨n18, hn18⟩ := and_e hn17
  -- n18: ['Jvm.Cond.eq', ['Jvm.Term.length', ['Jvm.Term.field', ['Jvm.Term.field', ['Jvm.Term.static', '"com/example/gentle_nudge/gentlenudge/server/AccountKind"', '"SERVICE"', '"Lcom/example/gentle_nudge/gentlenudge/server/AccountKind;"'], '"com/example/gentle_nudge/gentlenudge/server/AccountKind"', '"wireN
  obtain ⟨n19, hn19⟩ := and_e hn18
  -- n19: ['Jvm.Cond.eq', ['Jvm.Term.elem', ['Jvm.Term.field', ['Jvm.Term.field', ['Jvm.Term.static', '"com/example/gentle_nudge/gentlenudge/server/AccountKind"', '"SERVICE"', '"Lcom/example/gentle_nudge/gentlenudge/server/AccountKind;"'], '"com/example/gentle_nudge/gentlenudge/server/AccountKind"', '"wireNam
  obtain ⟨n20, hn20⟩ := and_e hn19
  -- n20: ['Jvm.Cond.eq', ['Jvm.Term.elem', ['Jvm.Term.field', ['Jvm.Term.field', ['Jvm.Term.static', '"com/example/gentle_nudge/gentlenudge/server/AccountKind"', '"SERVICE"', '"Lcom/example/gentle_nudge/gentlenudge/server/AccountKind;"'], '"com/example/gentle_nudge/gentlenudge/server/AccountKind"', '"wireNam
  obtain ⟨n21, hn21⟩ := and_e hn20
  -- n21: ['Jvm.Cond.eq', ['Jvm.Term.elem', ['Jvm.Term.field', ['Jvm.Term.field', ['Jvm.Term.static', '"com/example/gentle_nudge/gentlenudge/server/AccountKind"', '"SERVICE"', '"Lcom/example/gentle_nudge/gentlenudge/server/AccountKind;"'], '"com/example/gentle_nudge/gentlenudge/server/AccountKind"', '"wireNam
  obtain ⟨n22, hn22⟩ := and_e hn21
  -- n22: ['Jvm.Cond.eq', ['Jvm.Term.elem', ['Jvm.Term.field', ['Jvm.Term.field', ['Jvm.Term.static', '"com/example/gentle_nudge/gentlenudge/server/AccountKind"', '"SERVICE"', '"Lcom/example/gentle_nudge/gentlenudge/server/AccountKind;"'], '"com/example/gentle_nudge/gentlenudge/server/AccountKind"', '"wireNam
  obtain ⟨n23, hn23⟩ := and_e hn22
  -- n23: ['Jvm.Cond.eq', ['Jvm.Term.elem', ['Jvm.Term.field', ['Jvm.Term.field', ['Jvm.Term.static', '"com/example/gentle_nudge/gentlenudge/server/AccountKind"', '"SERVICE"', '"Lcom/example/gentle_nudge/gentlenudge/server/AccountKind;"'], '"com/example/gentle_nudge/gentlenudge/server/AccountKind"', '"wireNam
  obtain ⟨n24, hn24⟩ := and_e hn23
  -- n24: ['Jvm.Cond.eq', ['Jvm.Term.elem', ['Jvm.Term.field', ['Jvm.Term.field', ['Jvm.Term.static', '"com/example/gentle_nudge/gentlenudge/server/AccountKind"', '"SERVICE"', '"Lcom/example/gentle_nudge/gentlenudge/server/AccountKind;"'], '"com/example/gentle_nudge/gentlenudge/server/AccountKind"', '"wireNam
  -- hn24: ['Jvm.Cond.eq', ['Jvm.Term.elem', ['Jvm.Term.field', ['Jvm.Term.field', ['Jvm.Term.static', '"com/example/gentle_nudge/gentlenudge/server/AccountKind"', '"SERVICE"', '"Lcom/example/gentle_nudge/gentlenudge/server/AccountKind;"'], '"com/example/gentle_nudge/gentlenudge/server/AccountKind"', '"wireNam
  have nCS5 := not_v (Cond.before_iff.mp (hsets _ (List.mem_of_getElem? (i := 2) rfl)))
  obtain ⟨cs11, e10⟩ := is_v (Cond.before_iff.mp (hsets _ (List.mem_of_getElem? (i := 1) rfl)))
  have S12 : Sta s s.heap "java/lang/String" "COMPACT_STRINGS" "Z" (.int cs11) := Sta.start e10 (Or.inl (hsets _ (List.mem_of_getElem? (i := 0) rfl)))
  have c17 : ¬ (cs11 = (0 : Int32)) := gotF (Cond.eq_ints e10 (Term.int_eval (0))) nCS5
  obtain ⟨v13, e14, r15⟩ := isR_v (Cond.before_iff.mp (hsets _ (List.mem_of_getElem? (i := 8) rfl)))
  have S16 : Sta s s.heap "jdk/internal/util/Preconditions" "SIOOBE_FORMATTER" "Ljava/util/function/BiFunction;" v13 := Sta.start e14 (Or.inl (hsets _ (List.mem_of_getElem? (i := 7) rfl)))
  have hCH : CHv s consts_1 s.vm s.heap := CHv.start (own_EL hw) (fun p hp => hcalls.1 p hp) (hsets _ (List.mem_of_getElem? (i := 2) rfl)) (hw _ (List.mem_of_getElem? (i := 25) rfl)) (hw _ (List.mem_of_getElem? (i := 8) rfl))
  obtain ⟨clv, Arv_⟩ := Arr.start ev1 n0
  obtain ⟨ql, qe⟩ := own_len n2 ev1 Arv_
  have Av := Arv.start (dv := .null) (vs := [(.ref a3), (.ref a5)]) hfit Arv_ ql qe (by decide) rfl ⟨own_elemR n4 ev1 ev3 Arv_ (by decide), own_elemR n6 ev1 ev5 Arv_ (by decide), trivial⟩
  obtain ⟨mpu, evpu⟩ := exa_v n7
  have Empu := Exa.start evpu n7
  have Fnpu := Fld.start ((fld_at ev3).symm.trans evpu)
  have Fcpu := Fld.start (own_feqI n8 evpu)
  obtain ⟨qpu, eqpu⟩ := arr_v n9
  have Fvpu := Fld.start ((fld_at evpu).symm.trans eqpu)
  obtain ⟨clpu, Arpu⟩ := Arr.start eqpu n9
  obtain ⟨qlpu, qepu⟩ := own_len n10 eqpu Arpu
  have Abpu := Arv.start (dv := (.int (0 : Int32))) (vs := ((([117, 115, 101, 114] : List Int32).map (fun c : Int32 => c.toInt8.toInt32)).map Value.int)) (z := (4 : Int32)) hfit Arpu qlpu qepu (by decide) rfl ⟨own_elem n11 eqpu Arpu (by decide), own_elem n12 eqpu Arpu (by decide), own_elem n13 eqpu Arpu (by decide), own_elem n14 eqpu Arpu (by decide), trivial⟩
  obtain ⟨mps, evps⟩ := exa_v n15
  have Emps := Exa.start evps n15
  have Fnps := Fld.start ((fld_at ev5).symm.trans evps)
  have Fcps := Fld.start (own_feqI n16 evps)
  obtain ⟨qps, eqps⟩ := arr_v n17
  have Fvps := Fld.start ((fld_at evps).symm.trans eqps)
  obtain ⟨clps, Arps⟩ := Arr.start eqps n17
  obtain ⟨qlps, qeps⟩ := own_len n18 eqps Arps
  have Abps := Arv.start (dv := (.int (0 : Int32))) (vs := ((([115, 101, 114, 118, 105, 99, 101] : List Int32).map (fun c : Int32 => c.toInt8.toInt32)).map Value.int)) (z := (7 : Int32)) hfit Arps qlps qeps (by decide) rfl ⟨own_elem n19 eqps Arps (by decide), own_elem n20 eqps Arps (by decide), own_elem n21 eqps Arps (by decide), own_elem n22 eqps Arps (by decide), own_elem n23 eqps Arps (by decide), own_elem n24 eqps Arps (by decide), own_elem hn24 eqps Arps (by decide), trivial⟩
  obtain ⟨em, evm⟩ := exa_v (Cond.before_iff.mp (hsets _ (List.mem_of_getElem? (i := 11) rfl)))
  have Em := Exa.start evm (Cond.before_iff.mp (hsets _ (List.mem_of_getElem? (i := 11) rfl)))
  have SE := Sta.start evm (Or.inl (hsets _ (List.mem_of_getElem? (i := 10) rfl)))
  have Fm := Fld.start ((fld_at evm).symm.trans (null_v (Cond.before_iff.mp (hsets _ (List.mem_of_getElem? (i := 12) rfl)))))
  obtain ⟨n, o, h1, h2, h3, _, L, rfl, ⟨rfl, N⟩, -, hq⟩ := rm0 l s _ hw tables_1 i0 i1 i2 i3 i4 cs11 a1 a3 a5 mpu qpu mps qps em clv.cls clpu.cls clps.cls s.heap s.heap.size (Nat.le_refl _) S12 c17 (Old.start s) Sa1 Av Xa1 Xa3 Xa5 Fnpu Fnps Empu Fcpu Fvpu Abpu (by decide) (by decide) Emps Fcps Fvps Abps (by decide) (by decide) SE Em Fm Sa3 Sa5 p e ha hc hk s m _ below hf ((Spec.applies_iff_loose hf).mp happ).1 ⟨rfl, State.Warmed39.refl s, rfl, hCH⟩ trivial
  refine ⟨n, _, h1, h2, h3, hpost _ _ _ _ _ _ ⟨Cond.after_iff.mpr rfl, Cond.after_iff.mpr (eq_i res_at (Term.int_eval (1)) rfl), trivial⟩ ⟨hq.1, hq.2.1, hq.2.2.1, (hq.2.2.2.sift fun y hy => Or.inr (N y hy)).mono (by decide) (by decide)⟩⟩
theorem main_1_1 : Claimed_1_1 := comes_1 fun _ _ _ _ _ _ h hF => ⟨h.1, hF⟩
theorem main_1_2 : Claimed_1_2 := comes_1 fun _ _ _ _ _ _ h hF => ⟨h.2.1, hF⟩
end Jvm.Pilot.@@N@@
namespace Jvm.Pilot.@@N@@
open Jvm Jvm.ClassFile Sem Op Lib Jvm.Free Jvm.Stand Jvm.Pilot.@@N@@.Jvm.D
/-! MADE BY PROGRAM (witnessworld.py) out of the Statement's table words and the real class files: 25 classes; the members and pool entries that the words name. The judged class is class 1, her method 1. -/
namespace start1
open Jvm.ClassFile
def u (s : String) : CpInfo := .utf8 (stringToUtf16 s)
/-- a pool by its gaps: so many unusable entries, then the entry; so many at the end -/
def gap : Nat → List CpInfo → List CpInfo
  | 0, r => r
  | n + 1, r => .unusable :: gap n r
def poolList (es : List (Nat × CpInfo)) (last : Nat) : List CpInfo := es.foldr (fun e r => gap e.1 (e.2 :: r)) (gap last [])
def pool (es : List (Nat × CpInfo)) (last : Nat) : Array CpInfo := ⟨poolList es last⟩
def fileOf (pool : Array CpInfo) (this : Nat) (attrs : Array Attribute := #[]) (ms : Array MethodInfo := #[]) (fl : Nat := 33) (sup : Nat := 0) (ifs : Array Nat := #[]) (fds : Array FieldInfo := #[]) : ClassFile where
  minorVersion := 0
  majorVersion := 65
  constantPool := pool
  accessFlags := fl
  thisClass := this
  superClass := sup
  interfaces := ifs
  fields := fds
  methods := ms
  attributes := attrs
def plain (name : String) (sup : Option ClassId) : Class where
  name := name
  kind := .ordinary
  loader := none
  accessFlags := 33
  super := sup
  interfaces := #[]
  cf := none
  fields := #[]
  methods := #[]
  instanceTypes := #[]
  staticTypes := #[]
  resolved := #[]
  callSites := []
  init := .initialized
  statics := none
  mirror := none

def pool0 : Array CpInfo := pool [(5, u "<init>"), (0, u "()V"), (1, .class_ 10), (1, u "java/lang/Object"), (85, u "clone"), (0, u "()Ljava/lang/Object;")] 26

def k0c0 : Code := { maxStack := 0, maxLocals := 1, code := object_method_1_code, exceptionTable := #[], attributes := #[] }
def k0m0 : Method := { name := "<init>", desc := "()V", sig := { parameters := [], returnType := none }, accessFlags := 1, code := some k0c0 }
def k0m1 : Method := { name := "clone", desc := "()Ljava/lang/Object;", sig := { parameters := [], returnType := some (.object "java/lang/Object") }, accessFlags := 260, code := none }
/-- java/lang/Object -/
def k0 : Class := { plain "java/lang/Object" none with
  accessFlags := 33
  interfaces := #[]
  cf := some (fileOf pool0 8 #[] #[{ accessFlags := 1, nameIndex := 5, descriptorIndex := 6, attributes := #[] }, { accessFlags := 260, nameIndex := 96, descriptorIndex := 97, attributes := #[] }] 33 0 #[] #[])
  fields := #[]
  methods := #[k0m0, k0m1]
  instanceTypes := #[]
  staticTypes := #[]
  resolved := Array.replicate 124 none
  statics := none }

def pool1 : Array CpInfo := pool [(2, .class_ 4), (1, u "java/lang/Object"), (0, u "<init>"), (0, u "()V"), (0, .integer 2147483647), (0, .long 255), (1, .methodref 11 12), (0, .class_ 13), (0, .nameAndType 14 15), (0, u "java/lang/Math"), (0, u "min"), (0, u "(II)I"), (0, .methodref 17 18), (0, .class_ 19), (0, .nameAndType 20 21), (0, u "com/example/gentle_nudge/gentlenudge/server/AccountKindFromWireNamePinLaw"), (0, u "str"), (0, u "(I[C)Ljava/lang/String;"), (0, .methodref 23 24), (0, .class_ 25), (0, .nameAndType 26 27), (0, u "com/example/gentle_nudge/gentlenudge/server/AccountKind"), (0, u "fromWireName"), (0, u "(Ljava/lang/String;)Ljava/util/Optional;"), (0, .methodref 29 30), (0, .class_ 31), (0, .nameAndType 32 33), (0, u "java/util/Optional"), (0, u "isPresent"), (0, u "()Z"), (0, .methodref 29 35), (0, .nameAndType 36 37), (0, u "get"), (0, u "()Ljava/lang/Object;"), (0, .fieldref 23 39), (0, .nameAndType 40 41), (0, u "USER"), (0, u "Lcom/example/gentle_nudge/gentlenudge/server/AccountKind;"), (0, .fieldref 23 43), (0, .nameAndType 44 41), (0, u "SERVICE"), (0, .class_ 46), (0, u "java/lang/String"), (0, .methodref 45 48), (0, .nameAndType 5 49), (0, u "([C)V"), (2, u "law"), (0, u "(IIIIJ)Z")] 5

def k1m0 : Method := { name := "<init>", desc := "()V", sig := { parameters := [], returnType := none }, accessFlags := 1, code := none }
def k1c1 : Code := { maxStack := 6, maxLocals := 13, code := code, exceptionTable := #[], attributes := #[] }
def k1m1 : Method := { name := "law", desc := "(IIIIJ)Z", sig := { parameters := [.int, .int, .int, .int, .long], returnType := some .boolean }, accessFlags := 9, code := some k1c1 }
def k1c2 : Code := { maxStack := 7, maxLocals := 2, code := method_3_code, exceptionTable := #[], attributes := #[] }
def k1m2 : Method := { name := "str", desc := "(I[C)Ljava/lang/String;", sig := { parameters := [.int, (.array .char)], returnType := some (.object "java/lang/String") }, accessFlags := 10, code := some k1c2 }
/-- com/example/gentle_nudge/gentlenudge/server/AccountKindFromWireNamePinLaw -/
def k1 : Class := { plain "com/example/gentle_nudge/gentlenudge/server/AccountKindFromWireNamePinLaw" (some 0) with
  accessFlags := 49
  interfaces := #[]
  cf := some (fileOf pool1 17 #[] #[{ accessFlags := 1, nameIndex := 5, descriptorIndex := 6, attributes := #[] }, { accessFlags := 9, nameIndex := 52, descriptorIndex := 53, attributes := #[] }, { accessFlags := 10, nameIndex := 20, descriptorIndex := 21, attributes := #[] }] 49 2 #[] #[])
  fields := #[]
  methods := #[k1m0, k1m1, k1m2]
  instanceTypes := #[]
  staticTypes := #[]
  resolved := Array.replicate 59 none
  statics := none }

def pool2 : Array CpInfo := pool [(1, .class_ 2), (0, u "java/io/Serializable"), (0, .class_ 4), (0, u "java/lang/Object")] 2

/-- java/io/Serializable -/
def k2 : Class := { plain "java/io/Serializable" (some 0) with
  accessFlags := 1537
  interfaces := #[]
  cf := some (fileOf pool2 1 #[] #[] 1537 3 #[] #[])
  fields := #[]
  methods := #[]
  instanceTypes := #[]
  staticTypes := #[]
  resolved := Array.replicate 7 none
  statics := none }

def pool3 : Array CpInfo := pool [(1, .class_ 2), (0, u "java/lang/Comparable"), (0, .class_ 4), (0, u "java/lang/Object")] 7

/-- java/lang/Comparable -/
def k3 : Class := { plain "java/lang/Comparable" (some 0) with
  accessFlags := 1537
  interfaces := #[]
  cf := some (fileOf pool3 1 #[] #[] 1537 3 #[] #[])
  fields := #[]
  methods := #[]
  instanceTypes := #[]
  staticTypes := #[]
  resolved := Array.replicate 12 none
  statics := none }

def pool4 : Array CpInfo := pool [(2, .class_ 4), (1, u "java/lang/CharSequence"), (42, .class_ 48), (0, u "java/lang/CharSequence$1CodePointIterator"), (10, .class_ 60), (0, u "java/lang/CharSequence$1CharIterator"), (5, .class_ 67), (0, u "java/lang/Object")] 63

/-- java/lang/CharSequence -/
def k4 : Class := { plain "java/lang/CharSequence" (some 0) with
  accessFlags := 1537
  interfaces := #[]
  cf := some (fileOf pool4 2 #[.nestMembers #[47, 59]] #[] 1537 66 #[] #[])
  fields := #[]
  methods := #[]
  instanceTypes := #[]
  staticTypes := #[]
  resolved := Array.replicate 131 none
  statics := none }

def pool5 : Array CpInfo := pool [(1, .class_ 2), (0, u "java/lang/constant/Constable"), (0, .class_ 4), (0, u "java/lang/Object")] 6

/-- java/lang/constant/Constable -/
def k5 : Class := { plain "java/lang/constant/Constable" (some 0) with
  accessFlags := 1537
  interfaces := #[]
  cf := some (fileOf pool5 1 #[] #[] 1537 3 #[] #[])
  fields := #[]
  methods := #[]
  instanceTypes := #[]
  staticTypes := #[]
  resolved := Array.replicate 11 none
  statics := none }

def pool6 : Array CpInfo := pool [(1, .class_ 2), (0, u "java/lang/constant/ConstantDesc"), (0, .class_ 4), (0, u "java/lang/Object")] 32

/-- java/lang/constant/ConstantDesc -/
def k6 : Class := { plain "java/lang/constant/ConstantDesc" (some 0) with
  accessFlags := 1537
  interfaces := #[]
  cf := some (fileOf pool6 1 #[] #[] 1537 3 #[] #[])
  fields := #[]
  methods := #[]
  instanceTypes := #[]
  staticTypes := #[]
  resolved := Array.replicate 37 none
  statics := none }

def pool7 : Array CpInfo := pool [(1, .methodref 2 3), (0, .class_ 4), (0, .nameAndType 5 6), (0, u "java/lang/Object"), (0, u "<init>"), (0, u "()V"), (0, .string 8), (0, u ""), (0, .fieldref 10 11), (0, .class_ 12), (0, .nameAndType 13 14), (0, u "java/lang/String"), (0, u "value"), (0, u "[B"), (0, .fieldref 10 16), (0, .nameAndType 17 18), (0, u "coder"), (0, u "B"), (2, u "hash"), (0, u "I"), (2, u "hashIsZero"), (0, u "Z"), (0, .methodref 10 28), (0, .nameAndType 5 29), (0, u "([CIILjava/lang/Void;)V"), (8, .fieldref 10 39), (0, .nameAndType 40 26), (0, u "COMPACT_STRINGS"), (1, .class_ 44), (1, u "java/lang/StringUTF16"), (0, u "compress"), (1, .methodref 42 48), (0, .nameAndType 49 50), (0, u "coderFromArrayLen"), (0, u "([BI)B"), (56, .class_ 109), (1, u "java/lang/StringLatin1"), (67, .methodref 42 178), (0, .nameAndType 45 179), (0, u "([CII)[B"), (361, .methodref 107 542), (0, .nameAndType 543 544), (0, u "equals"), (0, u "([B[B)Z"), (28, u "(Ljava/lang/Object;)Z"), (1, .class_ 576), (0, u "java/lang/CharSequence"), (22, u "CASE_INSENSITIVE_ORDER"), (0, u "Ljava/util/Comparator;"), (409, u "([C)V"), (90, u "serialPersistentFields"), (0, u "[Ljava/io/ObjectStreamField;"), (0, .class_ 1104), (0, u "java/lang/String$CaseInsensitiveComparator"), (1, .class_ 1107), (0, u "java/io/Serializable"), (0, .class_ 1109), (0, u "java/lang/Comparable"), (0, .class_ 1111), (0, u "java/lang/constant/Constable"), (0, .class_ 1113), (0, u "java/lang/constant/ConstantDesc"), (2, u "serialVersionUID"), (0, u "J"), (3, u "REPL"), (0, u "C"), (2, u "LATIN1"), (1, u "UTF16")] 323

def k7m0 : Method := { name := "<init>", desc := "()V", sig := { parameters := [], returnType := none }, accessFlags := 1, code := none }
def k7c1 : Code := { maxStack := 5, maxLocals := 2, code := jdk_42_method_3_code, exceptionTable := #[], attributes := #[] }
def k7m1 : Method := { name := "<init>", desc := "([C)V", sig := { parameters := [(.array .char)], returnType := none }, accessFlags := 1, code := some k7c1 }
def k7c2 : Code := { maxStack := 2, maxLocals := 3, code := jdk_42_method_66_code, exceptionTable := #[], attributes := #[] }
def k7m2 : Method := { name := "equals", desc := "(Ljava/lang/Object;)Z", sig := { parameters := [(.object "java/lang/Object")], returnType := some .boolean }, accessFlags := 1, code := some k7c2 }
def k7c3 : Code := { maxStack := 4, maxLocals := 6, code := jdk_42_method_149_code, exceptionTable := #[], attributes := #[] }
def k7m3 : Method := { name := "<init>", desc := "([CIILjava/lang/Void;)V", sig := { parameters := [(.array .char), .int, .int, (.object "java/lang/Void")], returnType := none }, accessFlags := 2, code := some k7c3 }
/-- java/lang/String -/
def k7 : Class := { plain "java/lang/String" (some 0) with
  accessFlags := 49
  interfaces := #[2, 3, 4, 5, 6]
  cf := some (fileOf pool7 10 #[.nestMembers #[1103]] #[{ accessFlags := 1, nameIndex := 5, descriptorIndex := 6, attributes := #[] }, { accessFlags := 1, nameIndex := 5, descriptorIndex := 1010, attributes := #[] }, { accessFlags := 1, nameIndex := 543, descriptorIndex := 573, attributes := #[] }, { accessFlags := 2, nameIndex := 5, descriptorIndex := 29, attributes := #[] }] 49 2 #[1106, 1108, 575, 1110, 1112] #[{ accessFlags := 18, nameIndex := 13, descriptorIndex := 14, attributes := #[] }, { accessFlags := 18, nameIndex := 17, descriptorIndex := 18, attributes := #[] }, { accessFlags := 2, nameIndex := 21, descriptorIndex := 22, attributes := #[] }, { accessFlags := 2, nameIndex := 25, descriptorIndex := 26, attributes := #[] }, { accessFlags := 26, nameIndex := 1116, descriptorIndex := 1117, attributes := #[] }, { accessFlags := 24, nameIndex := 40, descriptorIndex := 26, attributes := #[] }, { accessFlags := 26, nameIndex := 1101, descriptorIndex := 1102, attributes := #[] }, { accessFlags := 26, nameIndex := 1121, descriptorIndex := 1122, attributes := #[] }, { accessFlags := 25, nameIndex := 599, descriptorIndex := 600, attributes := #[] }, { accessFlags := 24, nameIndex := 1125, descriptorIndex := 18, attributes := #[] }, { accessFlags := 24, nameIndex := 1127, descriptorIndex := 18, attributes := #[] }])
  fields := #[{ name := "value", type := (.array .byte), accessFlags := 18, slot := 0, constantValue := 0 }, { name := "coder", type := .byte, accessFlags := 18, slot := 1, constantValue := 0 }, { name := "hash", type := .int, accessFlags := 2, slot := 2, constantValue := 0 }, { name := "hashIsZero", type := .boolean, accessFlags := 2, slot := 3, constantValue := 0 }, { name := "serialVersionUID", type := .long, accessFlags := 26, slot := 0, constantValue := 0 }, { name := "COMPACT_STRINGS", type := .boolean, accessFlags := 24, slot := 1, constantValue := 0 }, { name := "serialPersistentFields", type := (.array (.object "java/io/ObjectStreamField")), accessFlags := 26, slot := 2, constantValue := 0 }, { name := "REPL", type := .char, accessFlags := 26, slot := 3, constantValue := 0 }, { name := "CASE_INSENSITIVE_ORDER", type := (.object "java/util/Comparator"), accessFlags := 25, slot := 4, constantValue := 0 }, { name := "LATIN1", type := .byte, accessFlags := 24, slot := 5, constantValue := 0 }, { name := "UTF16", type := .byte, accessFlags := 24, slot := 6, constantValue := 0 }]
  methods := #[k7m0, k7m1, k7m2, k7m3]
  instanceTypes := #[(.array .byte), .byte, .int, .boolean]
  staticTypes := #[.long, .boolean, (.array (.object "java/io/ObjectStreamField")), .char, (.object "java/util/Comparator"), .byte, .byte]
  resolved := Array.replicate 1451 none
  statics := some 0 }

def pool8 : Array CpInfo := pool [(6, .class_ 8), (1, u "java/lang/Object"), (0, u "<init>"), (0, u "()V"), (1, .class_ 14), (1, u "java/lang/StringUTF16"), (31, u "$assertionsDisabled"), (0, u "Z"), (13, u "HI_BYTE_SHIFT"), (0, u "I"), (2, u "LO_BYTE_SHIFT"), (49, .methodref 12 116), (0, .nameAndType 117 118), (0, u "compress"), (0, u "([CI[BII)I"), (3, u "([CII)[B"), (138, u "coderFromArrayLen"), (0, u "([BI)B"), (106, .class_ 371), (1, u "java/lang/StringUTF16$LinesSpliterator"), (58, u "MAX_LENGTH"), (196, .class_ 628), (0, u "java/lang/StringUTF16$CodePointsSpliterator"), (0, .class_ 630), (0, u "java/lang/StringUTF16$CharsSpliterator")] 4

def k8m0 : Method := { name := "<init>", desc := "()V", sig := { parameters := [], returnType := none }, accessFlags := 0, code := none }
def k8c1 : Code := { maxStack := 2, maxLocals := 2, code := jdk_52_method_15_code, exceptionTable := #[], attributes := #[] }
def k8m1 : Method := { name := "coderFromArrayLen", desc := "([BI)B", sig := { parameters := [(.array .byte), .int], returnType := some .byte }, accessFlags := 8, code := some k8c1 }
def k8c2 : Code := { maxStack := 5, maxLocals := 6, code := jdk_52_method_16_code, exceptionTable := #[], attributes := #[] }
def k8m2 : Method := { name := "compress", desc := "([CII)[B", sig := { parameters := [(.array .char), .int, .int], returnType := some (.array .byte) }, accessFlags := 9, code := some k8c2 }
def k8c3 : Code := { maxStack := 3, maxLocals := 7, code := jdk_52_method_21_code, exceptionTable := #[], attributes := #[] }
def k8m3 : Method := { name := "compress", desc := "([CI[BII)I", sig := { parameters := [(.array .char), .int, (.array .byte), .int, .int], returnType := some .int }, accessFlags := 9, code := some k8c3 }
/-- java/lang/StringUTF16 -/
def k8 : Class := { plain "java/lang/StringUTF16" (some 0) with
  accessFlags := 48
  interfaces := #[]
  cf := some (fileOf pool8 12 #[.nestMembers #[627, 629, 369]] #[{ accessFlags := 0, nameIndex := 9, descriptorIndex := 10, attributes := #[] }, { accessFlags := 8, nameIndex := 261, descriptorIndex := 262, attributes := #[] }, { accessFlags := 9, nameIndex := 117, descriptorIndex := 122, attributes := #[] }, { accessFlags := 9, nameIndex := 117, descriptorIndex := 118, attributes := #[] }] 48 6 #[] #[{ accessFlags := 26, nameIndex := 61, descriptorIndex := 62, attributes := #[] }, { accessFlags := 26, nameIndex := 65, descriptorIndex := 62, attributes := #[] }, { accessFlags := 24, nameIndex := 430, descriptorIndex := 62, attributes := #[] }, { accessFlags := 4120, nameIndex := 46, descriptorIndex := 47, attributes := #[] }])
  fields := #[{ name := "HI_BYTE_SHIFT", type := .int, accessFlags := 26, slot := 0, constantValue := 0 }, { name := "LO_BYTE_SHIFT", type := .int, accessFlags := 26, slot := 1, constantValue := 0 }, { name := "MAX_LENGTH", type := .int, accessFlags := 24, slot := 2, constantValue := 0 }, { name := "$assertionsDisabled", type := .boolean, accessFlags := 4120, slot := 3, constantValue := 0 }]
  methods := #[k8m0, k8m1, k8m2, k8m3]
  instanceTypes := #[]
  staticTypes := #[.int, .int, .int, .boolean]
  resolved := Array.replicate 635 none
  statics := none }

def pool9 : Array CpInfo := pool [(2, .class_ 4), (1, u "java/lang/Enum"), (0, u "name"), (0, u "Ljava/lang/String;"), (2, u "ordinal"), (0, u "I"), (1, .class_ 14), (1, u "java/lang/Object"), (4, u "hash"), (86, .class_ 108), (1, u "java/lang/Enum$EnumDesc"), (2, .class_ 112), (0, u "java/lang/constant/Constable"), (0, .class_ 114), (0, u "java/lang/Comparable"), (0, .class_ 116), (0, u "java/io/Serializable")] 87

/-- java/lang/Enum -/
def k9 : Class := { plain "java/lang/Enum" (some 0) with
  accessFlags := 1057
  interfaces := #[5, 3, 2]
  cf := some (fileOf pool9 2 #[.nestMembers #[106]] #[] 1057 12 #[111, 113, 115] #[{ accessFlags := 18, nameIndex := 5, descriptorIndex := 6, attributes := #[] }, { accessFlags := 18, nameIndex := 9, descriptorIndex := 10, attributes := #[] }, { accessFlags := 2, nameIndex := 19, descriptorIndex := 10, attributes := #[] }])
  fields := #[{ name := "name", type := (.object "java/lang/String"), accessFlags := 18, slot := 0, constantValue := 0 }, { name := "ordinal", type := .int, accessFlags := 18, slot := 1, constantValue := 0 }, { name := "hash", type := .int, accessFlags := 2, slot := 2, constantValue := 0 }]
  methods := #[]
  instanceTypes := #[(.object "java/lang/String"), .int, .int]
  staticTypes := #[]
  resolved := Array.replicate 204 none
  statics := none }

def pool10 : Array CpInfo := pool [(1, .class_ 2), (0, u "com/example/gentle_nudge/gentlenudge/server/AccountKind"), (2, u "USER"), (0, u "Lcom/example/gentle_nudge/gentlenudge/server/AccountKind;"), (2, u "SERVICE"), (0, .fieldref 1 11), (0, .nameAndType 12 13), (0, u "$VALUES"), (0, u "[Lcom/example/gentle_nudge/gentlenudge/server/AccountKind;"), (0, .methodref 15 16), (0, .class_ 13), (0, .nameAndType 17 18), (0, u "clone"), (0, u "()Ljava/lang/Object;"), (1, .class_ 22), (1, u "java/lang/Enum"), (6, .fieldref 1 30), (0, .nameAndType 31 32), (0, u "wireName"), (0, u "Ljava/lang/String;"), (0, .methodref 1 34), (0, .nameAndType 35 36), (0, u "values"), (0, u "()[Lcom/example/gentle_nudge/gentlenudge/server/AccountKind;"), (0, .methodref 38 39), (0, .class_ 40), (0, .nameAndType 41 42), (0, u "java/lang/String"), (0, u "equals"), (0, u "(Ljava/lang/Object;)Z"), (0, .methodref 44 45), (0, .class_ 46), (0, .nameAndType 47 48), (0, u "java/util/Optional"), (0, u "of"), (0, u "(Ljava/lang/Object;)Ljava/util/Optional;"), (0, .methodref 44 50), (0, .nameAndType 51 52), (0, u "empty"), (0, u "()Ljava/util/Optional;"), (19, u "fromWireName"), (0, u "(Ljava/lang/String;)Ljava/util/Optional;")] 7

def k10c0 : Code := { maxStack := 1, maxLocals := 0, code := prog_10_method_1_code, exceptionTable := #[], attributes := #[] }
def k10m0 : Method := { name := "values", desc := "()[Lcom/example/gentle_nudge/gentlenudge/server/AccountKind;", sig := { parameters := [], returnType := some (.array (.object "com/example/gentle_nudge/gentlenudge/server/AccountKind")) }, accessFlags := 9, code := some k10c0 }
def k10c1 : Code := { maxStack := 2, maxLocals := 5, code := prog_10_method_5_code, exceptionTable := #[], attributes := #[] }
def k10m1 : Method := { name := "fromWireName", desc := "(Ljava/lang/String;)Ljava/util/Optional;", sig := { parameters := [(.object "java/lang/String")], returnType := some (.object "java/util/Optional") }, accessFlags := 8, code := some k10c1 }
/-- com/example/gentle_nudge/gentlenudge/server/AccountKind -/
def k10 : Class := { plain "com/example/gentle_nudge/gentlenudge/server/AccountKind" (some 9) with
  accessFlags := 16432
  interfaces := #[]
  cf := some (fileOf pool10 1 #[] #[{ accessFlags := 9, nameIndex := 35, descriptorIndex := 36, attributes := #[] }, { accessFlags := 8, nameIndex := 72, descriptorIndex := 73, attributes := #[] }] 16432 20 #[] #[{ accessFlags := 16409, nameIndex := 5, descriptorIndex := 6, attributes := #[] }, { accessFlags := 16409, nameIndex := 9, descriptorIndex := 6, attributes := #[] }, { accessFlags := 18, nameIndex := 31, descriptorIndex := 32, attributes := #[] }, { accessFlags := 4122, nameIndex := 12, descriptorIndex := 13, attributes := #[] }])
  fields := #[{ name := "USER", type := (.object "com/example/gentle_nudge/gentlenudge/server/AccountKind"), accessFlags := 16409, slot := 0, constantValue := 0 }, { name := "SERVICE", type := (.object "com/example/gentle_nudge/gentlenudge/server/AccountKind"), accessFlags := 16409, slot := 1, constantValue := 0 }, { name := "wireName", type := (.object "java/lang/String"), accessFlags := 18, slot := 3, constantValue := 0 }, { name := "$VALUES", type := (.array (.object "com/example/gentle_nudge/gentlenudge/server/AccountKind")), accessFlags := 4122, slot := 2, constantValue := 0 }]
  methods := #[k10m0, k10m1]
  instanceTypes := #[(.object "java/lang/String"), .int, .int, (.object "java/lang/String")]
  staticTypes := #[(.object "com/example/gentle_nudge/gentlenudge/server/AccountKind"), (.object "com/example/gentle_nudge/gentlenudge/server/AccountKind"), (.array (.object "com/example/gentle_nudge/gentlenudge/server/AccountKind"))]
  resolved := Array.replicate 81 none
  statics := some 1 }

def pool11 : Array CpInfo := pool [(1, .class_ 2), (0, u "java/lang/Cloneable"), (0, .class_ 4), (0, u "java/lang/Object")] 2

/-- java/lang/Cloneable -/
def k11 : Class := { plain "java/lang/Cloneable" (some 0) with
  accessFlags := 1537
  interfaces := #[]
  cf := some (fileOf pool11 1 #[] #[] 1537 3 #[] #[])
  fields := #[]
  methods := #[]
  instanceTypes := #[]
  staticTypes := #[]
  resolved := Array.replicate 7 none
  statics := none }

def pool12 : Array CpInfo := pool [(4, .class_ 6), (1, u "java/lang/Object"), (0, u "<init>"), (0, u "()V"), (5, .class_ 16), (1, u "java/lang/StringLatin1"), (104, u "$assertionsDisabled"), (0, u "Z"), (98, .class_ 223), (1, u "java/lang/StringLatin1$LinesSpliterator"), (57, u "equals"), (0, u "([B[B)Z"), (107, .class_ 391), (0, u "java/lang/StringLatin1$CharsSpliterator")] 3

def k12m0 : Method := { name := "<init>", desc := "()V", sig := { parameters := [], returnType := none }, accessFlags := 0, code := none }
def k12c1 : Code := { maxStack := 3, maxLocals := 3, code := jdk_43_method_13_code, exceptionTable := #[], attributes := #[] }
def k12m1 : Method := { name := "equals", desc := "([B[B)Z", sig := { parameters := [(.array .byte), (.array .byte)], returnType := some .boolean }, accessFlags := 9, code := some k12c1 }
/-- java/lang/StringLatin1 -/
def k12 : Class := { plain "java/lang/StringLatin1" (some 0) with
  accessFlags := 48
  interfaces := #[]
  cf := some (fileOf pool12 14 #[.nestMembers #[390, 221]] #[{ accessFlags := 0, nameIndex := 7, descriptorIndex := 8, attributes := #[] }, { accessFlags := 9, nameIndex := 281, descriptorIndex := 282, attributes := #[] }] 48 4 #[] #[{ accessFlags := 4120, nameIndex := 121, descriptorIndex := 122, attributes := #[] }])
  fields := #[{ name := "$assertionsDisabled", type := .boolean, accessFlags := 4120, slot := 0, constantValue := 0 }]
  methods := #[k12m0, k12m1]
  instanceTypes := #[]
  staticTypes := #[.boolean]
  resolved := Array.replicate 395 none
  statics := none }

def pool13 : Array CpInfo := pool [(1, .fieldref 2 3), (0, .class_ 4), (0, .nameAndType 5 6), (0, u "java/util/Optional"), (0, u "EMPTY"), (0, u "Ljava/util/Optional;"), (0, .methodref 8 9), (0, .class_ 10), (0, .nameAndType 11 12), (0, u "java/lang/Object"), (0, u "<init>"), (0, u "()V"), (0, .fieldref 2 14), (0, .nameAndType 15 16), (0, u "value"), (0, u "Ljava/lang/Object;"), (0, .methodref 18 19), (0, .class_ 20), (0, .nameAndType 21 22), (0, u "java/util/Objects"), (0, u "requireNonNull"), (0, u "(Ljava/lang/Object;)Ljava/lang/Object;"), (0, .methodref 2 24), (0, .nameAndType 11 25), (0, u "(Ljava/lang/Object;)V"), (20, u "()Z"), (8, u "empty"), (0, u "()Ljava/util/Optional;"), (8, u "(Ljava/lang/Object;)Ljava/util/Optional;"), (2, u "isPresent"), (4, u "get"), (0, u "()Ljava/lang/Object;"), (7, u "of")] 104

def k13c0 : Code := { maxStack := 1, maxLocals := 1, code := jdk_32_method_1_code, exceptionTable := #[], attributes := #[] }
def k13m0 : Method := { name := "empty", desc := "()Ljava/util/Optional;", sig := { parameters := [], returnType := some (.object "java/util/Optional") }, accessFlags := 9, code := some k13c0 }
def k13c1 : Code := { maxStack := 2, maxLocals := 2, code := jdk_32_method_2_code, exceptionTable := #[], attributes := #[] }
def k13m1 : Method := { name := "<init>", desc := "(Ljava/lang/Object;)V", sig := { parameters := [(.object "java/lang/Object")], returnType := none }, accessFlags := 2, code := some k13c1 }
def k13c2 : Code := { maxStack := 3, maxLocals := 1, code := jdk_32_method_3_code, exceptionTable := #[], attributes := #[] }
def k13m2 : Method := { name := "of", desc := "(Ljava/lang/Object;)Ljava/util/Optional;", sig := { parameters := [(.object "java/lang/Object")], returnType := some (.object "java/util/Optional") }, accessFlags := 9, code := some k13c2 }
def k13c3 : Code := { maxStack := 3, maxLocals := 1, code := jdk_32_method_5_code, exceptionTable := #[], attributes := #[] }
def k13m3 : Method := { name := "get", desc := "()Ljava/lang/Object;", sig := { parameters := [], returnType := some (.object "java/lang/Object") }, accessFlags := 1, code := some k13c3 }
def k13c4 : Code := { maxStack := 1, maxLocals := 1, code := jdk_32_method_6_code, exceptionTable := #[], attributes := #[] }
def k13m4 : Method := { name := "isPresent", desc := "()Z", sig := { parameters := [], returnType := some .boolean }, accessFlags := 1, code := some k13c4 }
/-- java/util/Optional -/
def k13 : Class := { plain "java/util/Optional" (some 0) with
  accessFlags := 49
  interfaces := #[]
  cf := some (fileOf pool13 2 #[] #[{ accessFlags := 9, nameIndex := 55, descriptorIndex := 56, attributes := #[] }, { accessFlags := 2, nameIndex := 11, descriptorIndex := 25, attributes := #[] }, { accessFlags := 9, nameIndex := 82, descriptorIndex := 65, attributes := #[] }, { accessFlags := 1, nameIndex := 73, descriptorIndex := 74, attributes := #[] }, { accessFlags := 1, nameIndex := 68, descriptorIndex := 46, attributes := #[] }] 49 8 #[] #[{ accessFlags := 26, nameIndex := 5, descriptorIndex := 6, attributes := #[] }, { accessFlags := 18, nameIndex := 15, descriptorIndex := 16, attributes := #[] }])
  fields := #[{ name := "EMPTY", type := (.object "java/util/Optional"), accessFlags := 26, slot := 0, constantValue := 0 }, { name := "value", type := (.object "java/lang/Object"), accessFlags := 18, slot := 0, constantValue := 0 }]
  methods := #[k13m0, k13m1, k13m2, k13m3, k13m4]
  instanceTypes := #[(.object "java/lang/Object")]
  staticTypes := #[(.object "java/util/Optional")]
  resolved := Array.replicate 187 none
  statics := some 2 }

def pool14 : Array CpInfo := pool [(2, .class_ 4), (1, u "java/lang/Object"), (0, u "<init>"), (0, u "()V"), (35, .class_ 44), (1, u "java/util/Objects"), (0, u "requireNonNull"), (0, u "(Ljava/lang/Object;)Ljava/lang/Object;")] 137

def k14m0 : Method := { name := "<init>", desc := "()V", sig := { parameters := [], returnType := none }, accessFlags := 2, code := none }
def k14c1 : Code := { maxStack := 2, maxLocals := 1, code := jdk_31_method_10_code, exceptionTable := #[], attributes := #[] }
def k14m1 : Method := { name := "requireNonNull", desc := "(Ljava/lang/Object;)Ljava/lang/Object;", sig := { parameters := [(.object "java/lang/Object")], returnType := some (.object "java/lang/Object") }, accessFlags := 9, code := some k14c1 }
/-- java/util/Objects -/
def k14 : Class := { plain "java/util/Objects" (some 0) with
  accessFlags := 49
  interfaces := #[]
  cf := some (fileOf pool14 42 #[] #[{ accessFlags := 2, nameIndex := 5, descriptorIndex := 6, attributes := #[] }, { accessFlags := 9, nameIndex := 45, descriptorIndex := 46, attributes := #[] }] 49 2 #[] #[])
  fields := #[]
  methods := #[k14m0, k14m1]
  instanceTypes := #[]
  staticTypes := #[]
  resolved := Array.replicate 184 none
  statics := none }

def pool15 : Array CpInfo := pool [(1, .class_ 2), (0, u "java/lang/Math"), (1, .class_ 6), (1, u "java/lang/Object"), (0, u "<init>"), (0, u "()V"), (89, .class_ 100), (1, u "java/lang/Math$RandomNumberGeneratorHolder"), (71, u "negativeZeroFloatBits"), (0, u "J"), (2, u "negativeZeroDoubleBits"), (24, u "min"), (43, u "$assertionsDisabled"), (0, u "Z"), (88, u "(II)I"), (2, u "twoToTheDoubleScaleDown"), (0, u "D"), (4, u "twoToTheDoubleScaleUp"), (9, u "E"), (3, u "PI"), (2, u "TAU"), (2, u "DEGREES_TO_RADIANS"), (0, u "RADIANS_TO_DEGREES")] 94

def k15m0 : Method := { name := "<init>", desc := "()V", sig := { parameters := [], returnType := none }, accessFlags := 2, code := none }
def k15c1 : Code := { maxStack := 2, maxLocals := 2, code := jdk_29_method_69_code, exceptionTable := #[], attributes := #[] }
def k15m1 : Method := { name := "min", desc := "(II)I", sig := { parameters := [.int, .int], returnType := some .int }, accessFlags := 9, code := some k15c1 }
/-- java/lang/Math -/
def k15 : Class := { plain "java/lang/Math" (some 0) with
  accessFlags := 49
  interfaces := #[]
  cf := some (fileOf pool15 1 #[.nestMembers #[98]] #[{ accessFlags := 2, nameIndex := 7, descriptorIndex := 8, attributes := #[] }, { accessFlags := 9, nameIndex := 201, descriptorIndex := 335, attributes := #[] }] 49 4 #[] #[{ accessFlags := 25, nameIndex := 354, descriptorIndex := 339, attributes := #[] }, { accessFlags := 25, nameIndex := 358, descriptorIndex := 339, attributes := #[] }, { accessFlags := 25, nameIndex := 361, descriptorIndex := 339, attributes := #[] }, { accessFlags := 26, nameIndex := 364, descriptorIndex := 339, attributes := #[] }, { accessFlags := 26, nameIndex := 365, descriptorIndex := 339, attributes := #[] }, { accessFlags := 26, nameIndex := 172, descriptorIndex := 173, attributes := #[] }, { accessFlags := 26, nameIndex := 176, descriptorIndex := 173, attributes := #[] }, { accessFlags := 8, nameIndex := 344, descriptorIndex := 339, attributes := #[] }, { accessFlags := 8, nameIndex := 338, descriptorIndex := 339, attributes := #[] }, { accessFlags := 4120, nameIndex := 245, descriptorIndex := 246, attributes := #[] }])
  fields := #[{ name := "E", type := .double, accessFlags := 25, slot := 0, constantValue := 0 }, { name := "PI", type := .double, accessFlags := 25, slot := 1, constantValue := 0 }, { name := "TAU", type := .double, accessFlags := 25, slot := 2, constantValue := 0 }, { name := "DEGREES_TO_RADIANS", type := .double, accessFlags := 26, slot := 3, constantValue := 0 }, { name := "RADIANS_TO_DEGREES", type := .double, accessFlags := 26, slot := 4, constantValue := 0 }, { name := "negativeZeroFloatBits", type := .long, accessFlags := 26, slot := 5, constantValue := 0 }, { name := "negativeZeroDoubleBits", type := .long, accessFlags := 26, slot := 6, constantValue := 0 }, { name := "twoToTheDoubleScaleUp", type := .double, accessFlags := 8, slot := 7, constantValue := 0 }, { name := "twoToTheDoubleScaleDown", type := .double, accessFlags := 8, slot := 8, constantValue := 0 }, { name := "$assertionsDisabled", type := .boolean, accessFlags := 4120, slot := 9, constantValue := 0 }]
  methods := #[k15m0, k15m1]
  instanceTypes := #[]
  staticTypes := #[.double, .double, .double, .double, .double, .long, .long, .double, .double, .boolean]
  resolved := Array.replicate 460 none
  statics := none }

def pool16 : Array CpInfo := pool [(2, .class_ 4), (1, u "java/lang/Object"), (0, u "<init>"), (0, u "()V"), (17, .class_ 26), (1, u "jdk/internal/util/Preconditions"), (28, .class_ 56), (0, u "jdk/internal/util/Preconditions$4"), (57, .class_ 115), (0, u "jdk/internal/util/Preconditions$1"), (7, u "SIOOBE_FORMATTER"), (0, u "Ljava/util/function/BiFunction;"), (0, .class_ 126), (0, u "jdk/internal/util/Preconditions$2"), (3, u "AIOOBE_FORMATTER"), (0, .class_ 132), (0, u "jdk/internal/util/Preconditions$3"), (3, u "IOOBE_FORMATTER")] 57

def k16m0 : Method := { name := "<init>", desc := "()V", sig := { parameters := [], returnType := none }, accessFlags := 1, code := none }
/-- jdk/internal/util/Preconditions -/
def k16 : Class := { plain "jdk/internal/util/Preconditions" (some 0) with
  accessFlags := 33
  interfaces := #[]
  cf := some (fileOf pool16 24 #[.nestMembers #[55, 131, 125, 114]] #[{ accessFlags := 1, nameIndex := 5, descriptorIndex := 6, attributes := #[] }] 33 2 #[] #[{ accessFlags := 25, nameIndex := 123, descriptorIndex := 124, attributes := #[] }, { accessFlags := 25, nameIndex := 130, descriptorIndex := 124, attributes := #[] }, { accessFlags := 25, nameIndex := 136, descriptorIndex := 124, attributes := #[] }])
  fields := #[{ name := "SIOOBE_FORMATTER", type := (.object "java/util/function/BiFunction"), accessFlags := 25, slot := 0, constantValue := 0 }, { name := "AIOOBE_FORMATTER", type := (.object "java/util/function/BiFunction"), accessFlags := 25, slot := 1, constantValue := 0 }, { name := "IOOBE_FORMATTER", type := (.object "java/util/function/BiFunction"), accessFlags := 25, slot := 2, constantValue := 0 }]
  methods := #[k16m0]
  instanceTypes := #[]
  staticTypes := #[(.object "java/util/function/BiFunction"), (.object "java/util/function/BiFunction"), (.object "java/util/function/BiFunction")]
  resolved := Array.replicate 194 none
  statics := some 3 }

def pool17 : Array CpInfo := pool [(9, u "<init>"), (6, .class_ 18), (1, u "java/lang/Object"), (0, u "()V"), (1, .class_ 23), (1, u "jdk/internal/util/ArraysSupport"), (0, u "LOG2_ARRAY_LONG_INDEX_SCALE"), (0, u "I"), (2, u "U"), (0, u "Ljdk/internal/misc/Unsafe;"), (8, u "BIG_ENDIAN"), (0, u "Z"), (8, u "LOG2_BYTE_BIT_SIZE"), (4, u "LOG2_ARRAY_INT_INDEX_SCALE"), (54, u "JLA"), (0, u "Ljdk/internal/access/JavaLangAccess;"), (11, u "LOG2_ARRAY_BOOLEAN_INDEX_SCALE"), (9, u "LOG2_ARRAY_BYTE_INDEX_SCALE"), (5, u "LOG2_ARRAY_CHAR_INDEX_SCALE"), (5, u "LOG2_ARRAY_SHORT_INDEX_SCALE"), (18, u "LOG2_ARRAY_FLOAT_INDEX_SCALE"), (24, u "LOG2_ARRAY_DOUBLE_INDEX_SCALE"), (89, u "T_BOOLEAN"), (2, u "T_CHAR"), (1, u "T_FLOAT"), (1, u "T_DOUBLE"), (1, u "T_BYTE"), (1, u "T_SHORT"), (1, u "T_INT"), (1, u "T_LONG"), (1, u "SOFT_MAX_ARRAY_LENGTH")] 83

def k17m0 : Method := { name := "<init>", desc := "()V", sig := { parameters := [], returnType := none }, accessFlags := 2, code := none }
/-- jdk/internal/util/ArraysSupport -/
def k17 : Class := { plain "jdk/internal/util/ArraysSupport" (some 0) with
  accessFlags := 33
  interfaces := #[]
  cf := some (fileOf pool17 21 #[] #[{ accessFlags := 2, nameIndex := 9, descriptorIndex := 19, attributes := #[] }] 33 16 #[] #[{ accessFlags := 24, nameIndex := 28, descriptorIndex := 29, attributes := #[] }, { accessFlags := 26, nameIndex := 38, descriptorIndex := 39, attributes := #[] }, { accessFlags := 25, nameIndex := 121, descriptorIndex := 25, attributes := #[] }, { accessFlags := 25, nameIndex := 131, descriptorIndex := 25, attributes := #[] }, { accessFlags := 25, nameIndex := 137, descriptorIndex := 25, attributes := #[] }, { accessFlags := 25, nameIndex := 143, descriptorIndex := 25, attributes := #[] }, { accessFlags := 25, nameIndex := 53, descriptorIndex := 25, attributes := #[] }, { accessFlags := 25, nameIndex := 24, descriptorIndex := 25, attributes := #[] }, { accessFlags := 25, nameIndex := 162, descriptorIndex := 25, attributes := #[] }, { accessFlags := 25, nameIndex := 187, descriptorIndex := 25, attributes := #[] }, { accessFlags := 26, nameIndex := 48, descriptorIndex := 25, attributes := #[] }, { accessFlags := 25, nameIndex := 277, descriptorIndex := 25, attributes := #[] }, { accessFlags := 25, nameIndex := 280, descriptorIndex := 25, attributes := #[] }, { accessFlags := 25, nameIndex := 282, descriptorIndex := 25, attributes := #[] }, { accessFlags := 25, nameIndex := 284, descriptorIndex := 25, attributes := #[] }, { accessFlags := 25, nameIndex := 286, descriptorIndex := 25, attributes := #[] }, { accessFlags := 25, nameIndex := 288, descriptorIndex := 25, attributes := #[] }, { accessFlags := 25, nameIndex := 290, descriptorIndex := 25, attributes := #[] }, { accessFlags := 25, nameIndex := 292, descriptorIndex := 25, attributes := #[] }, { accessFlags := 26, nameIndex := 108, descriptorIndex := 109, attributes := #[] }, { accessFlags := 25, nameIndex := 294, descriptorIndex := 25, attributes := #[] }])
  fields := #[{ name := "U", type := (.object "jdk/internal/misc/Unsafe"), accessFlags := 24, slot := 0, constantValue := 0 }, { name := "BIG_ENDIAN", type := .boolean, accessFlags := 26, slot := 1, constantValue := 0 }, { name := "LOG2_ARRAY_BOOLEAN_INDEX_SCALE", type := .int, accessFlags := 25, slot := 2, constantValue := 0 }, { name := "LOG2_ARRAY_BYTE_INDEX_SCALE", type := .int, accessFlags := 25, slot := 3, constantValue := 0 }, { name := "LOG2_ARRAY_CHAR_INDEX_SCALE", type := .int, accessFlags := 25, slot := 4, constantValue := 0 }, { name := "LOG2_ARRAY_SHORT_INDEX_SCALE", type := .int, accessFlags := 25, slot := 5, constantValue := 0 }, { name := "LOG2_ARRAY_INT_INDEX_SCALE", type := .int, accessFlags := 25, slot := 6, constantValue := 0 }, { name := "LOG2_ARRAY_LONG_INDEX_SCALE", type := .int, accessFlags := 25, slot := 7, constantValue := 0 }, { name := "LOG2_ARRAY_FLOAT_INDEX_SCALE", type := .int, accessFlags := 25, slot := 8, constantValue := 0 }, { name := "LOG2_ARRAY_DOUBLE_INDEX_SCALE", type := .int, accessFlags := 25, slot := 9, constantValue := 0 }, { name := "LOG2_BYTE_BIT_SIZE", type := .int, accessFlags := 26, slot := 10, constantValue := 0 }, { name := "T_BOOLEAN", type := .int, accessFlags := 25, slot := 11, constantValue := 0 }, { name := "T_CHAR", type := .int, accessFlags := 25, slot := 12, constantValue := 0 }, { name := "T_FLOAT", type := .int, accessFlags := 25, slot := 13, constantValue := 0 }, { name := "T_DOUBLE", type := .int, accessFlags := 25, slot := 14, constantValue := 0 }, { name := "T_BYTE", type := .int, accessFlags := 25, slot := 15, constantValue := 0 }, { name := "T_SHORT", type := .int, accessFlags := 25, slot := 16, constantValue := 0 }, { name := "T_INT", type := .int, accessFlags := 25, slot := 17, constantValue := 0 }, { name := "T_LONG", type := .int, accessFlags := 25, slot := 18, constantValue := 0 }, { name := "JLA", type := (.object "jdk/internal/access/JavaLangAccess"), accessFlags := 26, slot := 19, constantValue := 0 }, { name := "SOFT_MAX_ARRAY_LENGTH", type := .int, accessFlags := 25, slot := 20, constantValue := 0 }]
  methods := #[k17m0]
  instanceTypes := #[]
  staticTypes := #[(.object "jdk/internal/misc/Unsafe"), .boolean, .int, .int, .int, .int, .int, .int, .int, .int, .int, .int, .int, .int, .int, .int, .int, .int, .int, (.object "jdk/internal/access/JavaLangAccess"), .int]
  resolved := Array.replicate 378 none
  statics := none }

/-- the primitive byte -/
def k18 : Class := { plain "byte" none with kind := .primitive 'B', accessFlags := 0x411 }
/-- [B -/
def k19 : Class := { plain "[B" (some 0) with kind := .array 18 .byte, interfaces := #[11, 2], accessFlags := 1041 }

/-- the primitive char -/
def k20 : Class := { plain "char" none with kind := .primitive 'C', accessFlags := 0x411 }
/-- [C -/
def k21 : Class := { plain "[C" (some 0) with kind := .array 20 .char, interfaces := #[11, 2], accessFlags := 1041 }

/-- the primitive int -/
def k22 : Class := { plain "int" none with kind := .primitive 'I', accessFlags := 0x411 }
/-- [I -/
def k23 : Class := { plain "[I" (some 0) with kind := .array 22 .int, interfaces := #[11, 2], accessFlags := 1041 }

/-- [Lcom/example/gentle_nudge/gentlenudge/server/AccountKind; -/
def k24 : Class := { plain "[Lcom/example/gentle_nudge/gentlenudge/server/AccountKind;" (some 0) with kind := .array 10 (.object "com/example/gentle_nudge/gentlenudge/server/AccountKind"), interfaces := #[11, 2], accessFlags := 1041 }

def heap : Heap := #[{ cls := 7, slots := #[.long 0, .int 1, .null, .int 0, .null, .int 0, .int 0], vm := .statics 7 },
  { cls := 10, slots := #[.ref 9, .ref 10, .ref 4], vm := .statics 10 },
  { cls := 13, slots := #[.ref 11], vm := .statics 13 },
  { cls := 16, slots := #[.null, .null, .null], vm := .statics 16 },
  { cls := 24, slots := #[.ref 9, .ref 10], vm := .none },
  { cls := 19, slots := #[.int 117, .int 115, .int 101, .int 114], vm := .none },
  { cls := 7, slots := #[.ref 5, .int 0, .int 0, .int 0], vm := .none },
  { cls := 19, slots := #[.int 115, .int 101, .int 114, .int 118, .int 105, .int 99, .int 101], vm := .none },
  { cls := 7, slots := #[.ref 7, .int 0, .int 0, .int 0], vm := .none },
  { cls := 10, slots := #[.null, .int 0, .int 0, .ref 6], vm := .none },
  { cls := 10, slots := #[.null, .int 1, .int 0, .ref 8], vm := .none },
  { cls := 13, slots := #[.null], vm := .none }]
def classes : Array Class := #[k0, k1, k2, k3, k4, k5, k6, k7, k8, k9, k10, k11, k12, k13, k14, k15, k16, k17, k18, k19, k20, k21, k22, k23, k24]
def interned : List (Array UInt16 × Addr) := []
def slotsUsed : Nat := 44
def theMethod : MethodId := ⟨1, 1⟩
def args0 : Array Value := #[.int 0, .int 0, .int 0, .int 0, .long 0]
def aboutOver (below : List Frame) : State where
  vm := { classes := classes, interned := interned.toArray }
  heap := heap
  slotsUsed := slotsUsed
  threads := #[{ frames := .invoking theMethod args0 :: below }]
def below0 : List Frame := [.native { method := ⟨0, 0⟩, args := #[] }]
def about1 : State := aboutOver below0
def p0 : Program := .bare "" "" ""
def e0 : Env := launch0.env 0 0 0
theorem w_frames : about1.frames = Frame.invoking theMethod args0 :: below0 := rfl
set_option maxRecDepth 65536 in
theorem w_args : argsFit about1.vm theMethod args0 = true := by decide +kernel
set_option maxRecDepth 65536 in
theorem w_heap : heapFits about1 = true := by decide +kernel
set_option maxRecDepth 65536 in
theorem w_runnable : about1.curStatus? = some .runnable := by decide +kernel
set_option maxRecDepth 65536 in
theorem w_alone : about1.alone = true := by decide +kernel
set_option maxRecDepth 65536 in
theorem w_named : about1.methodNamed? x = some theMethod := by decide +kernel
set_option maxRecDepth 65536 in
theorem w_hears : about1.hears theMethod below0 = true := by decide +kernel
set_option maxRecDepth 65536 in
theorem w_ripe : about1.ripe theMethod args0 below0 = true := by decide +kernel
theorem w_running : about1.status = .running := rfl
set_option maxRecDepth 65536 in
theorem w_room : about1.hasRoom e0.platform room_1 = true :=
  launch0.hasRoom_least _ room_1 (by decide +kernel) (by decide +kernel) (by decide +kernel) (by decide +kernel) (by decide +kernel) (by decide +kernel)
theorem allAtoms_all (ts : List Jvm.Cond) (a : Array Jvm.Value) (st : Jvm.State) : (allAtoms ts).before a st = ts.all (fun c => c.before a st) := by
  induction ts with
  | nil => rfl
  | cons c t ih =>
    show (Jvm.Cond.and c (allAtoms t)).before a st = _
    rw [Jvm.Cond.before_and, ih, List.all_cons]
def words1 : List Jvm.Cond := Jvm.Cond.code x code maxLocals ret :: tables_1
/-- a 'code' word, met by the world's own term for the bytes: nothing is compared byte by byte -/
theorem code_word {y : MethodName} {bytes : ByteArray} {mx : Nat} {rt : Option FieldType} {a : Array Value} {s : State} {m : MethodId} {meth : Method} {c : Code} (h1 : s.methodNamed? y = some m) (h2 : s.vm.method? m = some meth) (h3 : meth.code = some c) (h4 : c.code = bytes)
    (h5 : (c.maxLocals == mx && c.exceptionTable.isEmpty && decide (c.maxStack ≤ mostOperands) && decide (meth.sig.returnType = rt) && !meth.locks && decide (parseMethodDescriptor y.desc = some meth.sig)) = true) : (Jvm.Cond.code y bytes mx rt).before a s = true := by
  simp only [Bool.and_eq_true, beq_iff_eq, Bool.not_eq_true', decide_eq_true_eq] at h5
  obtain ⟨⟨⟨⟨⟨g1, g2⟩, g3⟩, g4⟩, g5⟩, g6⟩ := h5
  simp [Cond.before, Cond.holds, Cond.value, h1, h2, h3, h4, g1, g2, g3, g4, g5, g6]
def isCode : Jvm.Cond → Bool
  | .code _ _ _ _ => true
  | _ => false
theorem all_split {L : List Jvm.Cond} {P : Jvm.Cond → Bool} (h1 : L.all (fun c => isCode c || P c) = true) (h2 : ∀ c ∈ L.filter isCode, P c = true) : L.all P = true := by
  refine List.all_eq_true.mpr fun c hc => ?_
  have h := List.all_eq_true.mp h1 c hc
  rcases Bool.eq_false_or_eq_true (isCode c) with hi | hi
  · exact h2 c (List.mem_filter.mpr ⟨hc, hi⟩)
  · simpa [hi] using h
set_option maxRecDepth 65536 in
theorem w_c0 : (Jvm.Cond.code x code maxLocals ret).before args0 about1 = true := code_word (m := ⟨1, 1⟩) (meth := k1m1) (c := k1c1) (by decide +kernel) rfl rfl rfl (by decide +kernel)
set_option maxRecDepth 65536 in
theorem w_c1 : (Jvm.Cond.code ({ cls := "com/example/gentle_nudge/gentlenudge/server/AccountKindFromWireNamePinLaw", name := "str", desc := "(I[C)Ljava/lang/String;" } : Jvm.MethodName) method_3_code (2 : Nat) (Option.some (Jvm.ClassFile.FieldType.object "java/lang/String"))).before args0 about1 = true := code_word (m := ⟨1, 2⟩) (meth := k1m2) (c := k1c2) (by decide +kernel) rfl rfl rfl (by decide +kernel)
set_option maxRecDepth 65536 in
theorem w_c2 : (Jvm.Cond.code ({ cls := "java/lang/String", name := "<init>", desc := "([C)V" } : Jvm.MethodName) jdk_42_method_3_code (2 : Nat) (Option.none : Option Jvm.ClassFile.FieldType)).before args0 about1 = true := code_word (m := ⟨7, 1⟩) (meth := k7m1) (c := k7c1) (by decide +kernel) rfl rfl rfl (by decide +kernel)
set_option maxRecDepth 65536 in
theorem w_c3 : (Jvm.Cond.code ({ cls := "java/lang/String", name := "<init>", desc := "([CIILjava/lang/Void;)V" } : Jvm.MethodName) jdk_42_method_149_code (6 : Nat) (Option.none : Option Jvm.ClassFile.FieldType)).before args0 about1 = true := code_word (m := ⟨7, 3⟩) (meth := k7m3) (c := k7c3) (by decide +kernel) rfl rfl rfl (by decide +kernel)
set_option maxRecDepth 65536 in
theorem w_c4 : (Jvm.Cond.code ({ cls := "java/lang/Object", name := "<init>", desc := "()V" } : Jvm.MethodName) object_method_1_code (1 : Nat) (Option.none : Option Jvm.ClassFile.FieldType)).before args0 about1 = true := code_word (m := ⟨0, 0⟩) (meth := k0m0) (c := k0c0) (by decide +kernel) rfl rfl rfl (by decide +kernel)
set_option maxRecDepth 65536 in
theorem w_c5 : (Jvm.Cond.code ({ cls := "java/lang/StringUTF16", name := "compress", desc := "([CII)[B" } : Jvm.MethodName) jdk_52_method_16_code (6 : Nat) (Option.some (Jvm.ClassFile.FieldType.array Jvm.ClassFile.FieldType.byte))).before args0 about1 = true := code_word (m := ⟨8, 2⟩) (meth := k8m2) (c := k8c2) (by decide +kernel) rfl rfl rfl (by decide +kernel)
set_option maxRecDepth 65536 in
theorem w_c6 : (Jvm.Cond.code ({ cls := "java/lang/StringUTF16", name := "compress", desc := "([CI[BII)I" } : Jvm.MethodName) jdk_52_method_21_code (7 : Nat) (Option.some Jvm.ClassFile.FieldType.int)).before args0 about1 = true := code_word (m := ⟨8, 3⟩) (meth := k8m3) (c := k8c3) (by decide +kernel) rfl rfl rfl (by decide +kernel)
set_option maxRecDepth 65536 in
theorem w_c7 : (Jvm.Cond.code ({ cls := "java/lang/StringUTF16", name := "coderFromArrayLen", desc := "([BI)B" } : Jvm.MethodName) jdk_52_method_15_code (2 : Nat) (Option.some Jvm.ClassFile.FieldType.byte)).before args0 about1 = true := code_word (m := ⟨8, 1⟩) (meth := k8m1) (c := k8c1) (by decide +kernel) rfl rfl rfl (by decide +kernel)
set_option maxRecDepth 65536 in
theorem w_c8 : (Jvm.Cond.code ({ cls := "com/example/gentle_nudge/gentlenudge/server/AccountKind", name := "fromWireName", desc := "(Ljava/lang/String;)Ljava/util/Optional;" } : Jvm.MethodName) prog_10_method_5_code (5 : Nat) (Option.some (Jvm.ClassFile.FieldType.object "java/util/Optional"))).before args0 about1 = true := code_word (m := ⟨10, 1⟩) (meth := k10m1) (c := k10c1) (by decide +kernel) rfl rfl rfl (by decide +kernel)
set_option maxRecDepth 65536 in
theorem w_c9 : (Jvm.Cond.code ({ cls := "com/example/gentle_nudge/gentlenudge/server/AccountKind", name := "values", desc := "()[Lcom/example/gentle_nudge/gentlenudge/server/AccountKind;" } : Jvm.MethodName) prog_10_method_1_code (0 : Nat) (Option.some (Jvm.ClassFile.FieldType.array (Jvm.ClassFile.FieldType.object "com/example/gentle_nudge/gentlenudge/server/AccountKind")))).before args0 about1 = true := code_word (m := ⟨10, 0⟩) (meth := k10m0) (c := k10c0) (by decide +kernel) rfl rfl rfl (by decide +kernel)
set_option maxRecDepth 65536 in
theorem w_c10 : (Jvm.Cond.code ({ cls := "java/lang/String", name := "equals", desc := "(Ljava/lang/Object;)Z" } : Jvm.MethodName) jdk_42_method_66_code (3 : Nat) (Option.some Jvm.ClassFile.FieldType.boolean)).before args0 about1 = true := code_word (m := ⟨7, 2⟩) (meth := k7m2) (c := k7c2) (by decide +kernel) rfl rfl rfl (by decide +kernel)
set_option maxRecDepth 65536 in
theorem w_c11 : (Jvm.Cond.code ({ cls := "java/lang/StringLatin1", name := "equals", desc := "([B[B)Z" } : Jvm.MethodName) jdk_43_method_13_code (3 : Nat) (Option.some Jvm.ClassFile.FieldType.boolean)).before args0 about1 = true := code_word (m := ⟨12, 1⟩) (meth := k12m1) (c := k12c1) (by decide +kernel) rfl rfl rfl (by decide +kernel)
set_option maxRecDepth 65536 in
theorem w_c12 : (Jvm.Cond.code ({ cls := "java/util/Optional", name := "of", desc := "(Ljava/lang/Object;)Ljava/util/Optional;" } : Jvm.MethodName) jdk_32_method_3_code (1 : Nat) (Option.some (Jvm.ClassFile.FieldType.object "java/util/Optional"))).before args0 about1 = true := code_word (m := ⟨13, 2⟩) (meth := k13m2) (c := k13c2) (by decide +kernel) rfl rfl rfl (by decide +kernel)
set_option maxRecDepth 65536 in
theorem w_c13 : (Jvm.Cond.code ({ cls := "java/util/Objects", name := "requireNonNull", desc := "(Ljava/lang/Object;)Ljava/lang/Object;" } : Jvm.MethodName) jdk_31_method_10_code (1 : Nat) (Option.some (Jvm.ClassFile.FieldType.object "java/lang/Object"))).before args0 about1 = true := code_word (m := ⟨14, 1⟩) (meth := k14m1) (c := k14c1) (by decide +kernel) rfl rfl rfl (by decide +kernel)
set_option maxRecDepth 65536 in
theorem w_c14 : (Jvm.Cond.code ({ cls := "java/util/Optional", name := "<init>", desc := "(Ljava/lang/Object;)V" } : Jvm.MethodName) jdk_32_method_2_code (2 : Nat) (Option.none : Option Jvm.ClassFile.FieldType)).before args0 about1 = true := code_word (m := ⟨13, 1⟩) (meth := k13m1) (c := k13c1) (by decide +kernel) rfl rfl rfl (by decide +kernel)
set_option maxRecDepth 65536 in
theorem w_c15 : (Jvm.Cond.code ({ cls := "java/util/Optional", name := "isPresent", desc := "()Z" } : Jvm.MethodName) jdk_32_method_6_code (1 : Nat) (Option.some Jvm.ClassFile.FieldType.boolean)).before args0 about1 = true := code_word (m := ⟨13, 4⟩) (meth := k13m4) (c := k13c4) (by decide +kernel) rfl rfl rfl (by decide +kernel)
set_option maxRecDepth 65536 in
theorem w_c16 : (Jvm.Cond.code ({ cls := "java/util/Optional", name := "get", desc := "()Ljava/lang/Object;" } : Jvm.MethodName) jdk_32_method_5_code (1 : Nat) (Option.some (Jvm.ClassFile.FieldType.object "java/lang/Object"))).before args0 about1 = true := code_word (m := ⟨13, 3⟩) (meth := k13m3) (c := k13c3) (by decide +kernel) rfl rfl rfl (by decide +kernel)
set_option maxRecDepth 65536 in
theorem w_c17 : (Jvm.Cond.code ({ cls := "java/lang/Math", name := "min", desc := "(II)I" } : Jvm.MethodName) jdk_29_method_69_code (2 : Nat) (Option.some Jvm.ClassFile.FieldType.int)).before args0 about1 = true := code_word (m := ⟨15, 1⟩) (meth := k15m1) (c := k15c1) (by decide +kernel) rfl rfl rfl (by decide +kernel)
set_option maxRecDepth 65536 in
theorem w_c18 : (Jvm.Cond.code ({ cls := "java/util/Optional", name := "empty", desc := "()Ljava/util/Optional;" } : Jvm.MethodName) jdk_32_method_1_code (1 : Nat) (Option.some (Jvm.ClassFile.FieldType.object "java/util/Optional"))).before args0 about1 = true := code_word (m := ⟨13, 0⟩) (meth := k13m0) (c := k13c0) (by decide +kernel) rfl rfl rfl (by decide +kernel)
def codes1 : List Jvm.Cond := [Jvm.Cond.code x code maxLocals ret, Jvm.Cond.code ({ cls := "com/example/gentle_nudge/gentlenudge/server/AccountKindFromWireNamePinLaw", name := "str", desc := "(I[C)Ljava/lang/String;" } : Jvm.MethodName) method_3_code (2 : Nat) (Option.some (Jvm.ClassFile.FieldType.object "java/lang/String")), Jvm.Cond.code ({ cls := "java/lang/String", name := "<init>", desc := "([C)V" } : Jvm.MethodName) jdk_42_method_3_code (2 : Nat) (Option.none : Option Jvm.ClassFile.FieldType), Jvm.Cond.code ({ cls := "java/lang/String", name := "<init>", desc := "([CIILjava/lang/Void;)V" } : Jvm.MethodName) jdk_42_method_149_code (6 : Nat) (Option.none : Option Jvm.ClassFile.FieldType), Jvm.Cond.code ({ cls := "java/lang/Object", name := "<init>", desc := "()V" } : Jvm.MethodName) object_method_1_code (1 : Nat) (Option.none : Option Jvm.ClassFile.FieldType), Jvm.Cond.code ({ cls := "java/lang/StringUTF16", name := "compress", desc := "([CII)[B" } : Jvm.MethodName) jdk_52_method_16_code (6 : Nat) (Option.some (Jvm.ClassFile.FieldType.array Jvm.ClassFile.FieldType.byte)), Jvm.Cond.code ({ cls := "java/lang/StringUTF16", name := "compress", desc := "([CI[BII)I" } : Jvm.MethodName) jdk_52_method_21_code (7 : Nat) (Option.some Jvm.ClassFile.FieldType.int), Jvm.Cond.code ({ cls := "java/lang/StringUTF16", name := "coderFromArrayLen", desc := "([BI)B" } : Jvm.MethodName) jdk_52_method_15_code (2 : Nat) (Option.some Jvm.ClassFile.FieldType.byte), Jvm.Cond.code ({ cls := "com/example/gentle_nudge/gentlenudge/server/AccountKind", name := "fromWireName", desc := "(Ljava/lang/String;)Ljava/util/Optional;" } : Jvm.MethodName) prog_10_method_5_code (5 : Nat) (Option.some (Jvm.ClassFile.FieldType.object "java/util/Optional")), Jvm.Cond.code ({ cls := "com/example/gentle_nudge/gentlenudge/server/AccountKind", name := "values", desc := "()[Lcom/example/gentle_nudge/gentlenudge/server/AccountKind;" } : Jvm.MethodName) prog_10_method_1_code (0 : Nat) (Option.some (Jvm.ClassFile.FieldType.array (Jvm.ClassFile.FieldType.object "com/example/gentle_nudge/gentlenudge/server/AccountKind"))), Jvm.Cond.code ({ cls := "java/lang/String", name := "equals", desc := "(Ljava/lang/Object;)Z" } : Jvm.MethodName) jdk_42_method_66_code (3 : Nat) (Option.some Jvm.ClassFile.FieldType.boolean), Jvm.Cond.code ({ cls := "java/lang/StringLatin1", name := "equals", desc := "([B[B)Z" } : Jvm.MethodName) jdk_43_method_13_code (3 : Nat) (Option.some Jvm.ClassFile.FieldType.boolean), Jvm.Cond.code ({ cls := "java/util/Optional", name := "of", desc := "(Ljava/lang/Object;)Ljava/util/Optional;" } : Jvm.MethodName) jdk_32_method_3_code (1 : Nat) (Option.some (Jvm.ClassFile.FieldType.object "java/util/Optional")), Jvm.Cond.code ({ cls := "java/util/Objects", name := "requireNonNull", desc := "(Ljava/lang/Object;)Ljava/lang/Object;" } : Jvm.MethodName) jdk_31_method_10_code (1 : Nat) (Option.some (Jvm.ClassFile.FieldType.object "java/lang/Object")), Jvm.Cond.code ({ cls := "java/util/Optional", name := "<init>", desc := "(Ljava/lang/Object;)V" } : Jvm.MethodName) jdk_32_method_2_code (2 : Nat) (Option.none : Option Jvm.ClassFile.FieldType), Jvm.Cond.code ({ cls := "java/util/Optional", name := "isPresent", desc := "()Z" } : Jvm.MethodName) jdk_32_method_6_code (1 : Nat) (Option.some Jvm.ClassFile.FieldType.boolean), Jvm.Cond.code ({ cls := "java/util/Optional", name := "get", desc := "()Ljava/lang/Object;" } : Jvm.MethodName) jdk_32_method_5_code (1 : Nat) (Option.some (Jvm.ClassFile.FieldType.object "java/lang/Object")), Jvm.Cond.code ({ cls := "java/lang/Math", name := "min", desc := "(II)I" } : Jvm.MethodName) jdk_29_method_69_code (2 : Nat) (Option.some Jvm.ClassFile.FieldType.int), Jvm.Cond.code ({ cls := "java/util/Optional", name := "empty", desc := "()Ljava/util/Optional;" } : Jvm.MethodName) jdk_32_method_1_code (1 : Nat) (Option.some (Jvm.ClassFile.FieldType.object "java/util/Optional"))]
set_option maxRecDepth 65536 in
theorem codes_eq : words1.filter isCode = codes1 := rfl
theorem w_codes : ∀ c ∈ words1.filter isCode, c.before args0 about1 = true := by
  rw [codes_eq]
  intro c hc
  simp only [codes1, List.mem_cons, List.not_mem_nil, or_false] at hc
  rcases hc with rfl | rfl | rfl | rfl | rfl | rfl | rfl | rfl | rfl | rfl | rfl | rfl | rfl | rfl | rfl | rfl | rfl | rfl | rfl
  · exact w_c0
  · exact w_c1
  · exact w_c2
  · exact w_c3
  · exact w_c4
  · exact w_c5
  · exact w_c6
  · exact w_c7
  · exact w_c8
  · exact w_c9
  · exact w_c10
  · exact w_c11
  · exact w_c12
  · exact w_c13
  · exact w_c14
  · exact w_c15
  · exact w_c16
  · exact w_c17
  · exact w_c18
set_option maxRecDepth 65536 in
theorem w_t1 : (words1.take 24).all (fun c => isCode c || c.before args0 about1) = true := by decide +kernel
set_option maxRecDepth 65536 in
theorem w_t2 : ((words1.drop 24).take 24).all (fun c => isCode c || c.before args0 about1) = true := by decide +kernel
set_option maxRecDepth 65536 in
theorem w_t3 : (((words1.drop 24).drop 24).take 24).all (fun c => isCode c || c.before args0 about1) = true := by decide +kernel
set_option maxRecDepth 65536 in
theorem w_t4 : ((((words1.drop 24).drop 24).drop 24).take 24).all (fun c => isCode c || c.before args0 about1) = true := by decide +kernel
set_option maxRecDepth 65536 in
theorem w_t5 : ((((words1.drop 24).drop 24).drop 24).drop 24).all (fun c => isCode c || c.before args0 about1) = true := by decide +kernel
theorem w_tables : (allAtoms (Jvm.Cond.code x code maxLocals ret :: tables_1)).before args0 about1 = true := by
  rw [allAtoms_all]
  show words1.all (fun c => c.before args0 about1) = true
  refine all_split ?_ w_codes
  rw [← List.take_append_drop 24 words1, List.all_append, w_t1, ← List.take_append_drop 24 (words1.drop 24), List.all_append, w_t2, ← List.take_append_drop 24 ((words1.drop 24).drop 24), List.all_append, w_t3, ← List.take_append_drop 24 (((words1.drop 24).drop 24).drop 24), List.all_append, w_t4, w_t5]
  rfl
set_option maxRecDepth 65536 in
theorem w_rest : rest_1_c.before args0 about1 = true := by decide +kernel
set_option maxRecDepth 65536 in
theorem w_case : (Jvm.Cond.and given_1 narrow_1).before args0 about1 = true := by decide +kernel
set_option maxRecDepth 65536 in
theorem w_consts : constsHeld consts_1 about1 := Jvm.Lit.constsHeldB_iff.mp (by decide +kernel)
theorem w_applies : (headSpec (Jvm.Cond.code x code maxLocals ret :: tables_1) room_1).applies x e0.platform about1 = true :=
  (Spec.applies_iff w_frames).mpr ⟨w_running, w_runnable, w_alone, w_named, w_hears, w_ripe, w_room, w_tables⟩
theorem atStart : AtStart classFile x code maxLocals ret World_1 tables_1 room_1 Calls_1 rest_1 Pre_1 launch0 p0 e0 about1 theMethod args0 below0 :=
  ⟨lists_1, trivial, launch0.admits_env _ _ _, launch0.least_env, fairChoices_fair.cas, fairChoices_fair.clock, w_frames, w_args, w_heap, w_applies, ⟨w_consts, trivial⟩, w_rest, w_case⟩
end start1
theorem witness_1 : WitnessClaimed_1 := ⟨start1.p0, start1.e0, start1.about1, start1.theMethod, start1.args0, start1.below0, start1.atStart⟩
end Jvm.Pilot.@@N@@
