import JvmDerived
import JvmDerived.Pilot.@@N@@Statement
import JvmDerived.Pilot.@@N@@Code
set_option linter.unusedVariables false
set_option linter.unusedSimpArgs false
/- laws to paste: Road.backV, Road.eqW, Road.codOf (cut by pick.py; bodies as the Statement names them) -/
namespace Jvm.Pilot.@@N@@
namespace StrChars
open Jvm Sem ClassFile Op Lib Jvm.Stand Jvm.Free.XT Jvm.Free.ALB Jvm.Free.JM Jvm.Free
open Jvm.Lib.Cold (StaticIs)
/-- a char array whose places are chars -/
def Ch (a : Addr) (A : Cell) (U : State) : Prop := Arr .char a A U ∧ Typed .char A
theorem Ch.mv {a : Addr} {A : Cell} {U U' : State} (h : Ch a A U) (hal : U.vm.Alike U'.vm) (hh : U'.heap = U.heap) : Ch a A U' := ⟨h.1.mv hal hh, h.2⟩
theorem Ch.keep {a : Addr} {A : Cell} {U U' : State} (h : Ch a A U) (hal : U.vm.Alike U'.vm) (hk : U'.heap[a]? = some A) : Ch a A U' := ⟨h.1.keep hal hk, h.2⟩
/-- what place i of a char[]'s cell holds -/
def cv (A : Cell) (i : Nat) : Int32 := match A.slots[i]? with | some (.int x) => x | _ => 0
theorem Ch.get {a : Addr} {A : Cell} {U : State} (h : Ch a A U) {i : Nat} (hi : i < A.slots.size) : A.slots[i]? = some (.int (cv A i)) := by
  have e := Array.getElem?_eq_getElem hi
  have f := h.2 i _ e
  unfold cv; rw [e]
  generalize A.slots[i] = v at f
  cases v <;> simp [fits] at f ⊢
/-- the byte that i2b leaves of a char -/
def lo8 (x : Int32) : Int32 := x.toInt8.toInt32
theorem fits_lo8 (y : Int32) : fits .byte (.int (lo8 y)) = true := by
  have h1 := y.toInt8.le_toInt
  have h2 := y.toInt8.toInt_lt
  simp only [lo8, fits, Bool.and_eq_true, decide_eq_true_eq, Int32.le_iff_toInt_le, Int8.toInt_toInt32, show (-128 : Int32).toInt = -128 from by decide, show (127 : Int32).toInt = 127 from by decide]
  omega
/-- A' is A but that each place j of lo .. hi - 1 holds f j -/
def Laid (A A' : Cell) (lo hi : Nat) (f : Nat → Value) : Prop := A'.cls = A.cls ∧ A'.vm = A.vm ∧ A'.slots.size = A.slots.size ∧ ∀ i, A'.slots[i]? = if lo ≤ i ∧ i < hi then some (f i) else A.slots[i]?
theorem Laid.zero (A : Cell) (lo : Nat) (f : Nat → Value) : Laid A A lo (lo + 0) f := ⟨rfl, rfl, rfl, fun i => by rw [if_neg (by omega)]⟩
theorem Laid.step {A Ak : Cell} {lo k : Nat} {f : Nat → Value} {v : Value} (h : Laid A Ak lo k f) (hlo : lo ≤ k) (hk : k < Ak.slots.size) (hv : v = f k) : Laid A (Ak.setSlot k v) lo (k + 1) f := by
  refine ⟨h.1, h.2.1, by simpa [Cell.setSlot] using h.2.2.1, fun i => ?_⟩
  by_cases e : k = i
  · subst e; rw [Cell.slots_setSlot_self v hk, if_pos (by omega), hv]
  · rw [Cell.slots_setSlot_ne v e, h.2.2.2 i]
    by_cases q : lo ≤ i ∧ i < k
    · rw [if_pos q, if_pos (by omega)]
    · rw [if_neg q, if_neg (by omega)]
def U16 : String := "java/lang/StringUTF16"
namespace Cmp5
def yN : MethodName := ⟨"java/lang/StringUTF16", "compress", "([CI[BII)I"⟩
abbrev yB : ByteArray := jdk_52_method_21_code
theorem d0 : decode yB 0 = .ok (.iconst 0, 1) := by decide +kernel
theorem d1 : decode yB 1 = .ok (.istore 5, 2) := by decide +kernel
theorem d3 : decode yB 3 = .ok (.iload 5, 2) := by decide +kernel
theorem d5 : decode yB 5 = .ok (.iload 4, 2) := by decide +kernel
theorem d7 : decode yB 7 = .ok (.if_icmp (.ge) 37, 3) := by decide +kernel
theorem d10 : decode yB 10 = .ok (.aload_n 0, 1) := by decide +kernel
theorem d11 : decode yB 11 = .ok (.iload_n 1, 1) := by decide +kernel
theorem d12 : decode yB 12 = .ok (.caload, 1) := by decide +kernel
theorem d13 : decode yB 13 = .ok (.istore 6, 2) := by decide +kernel
theorem d15 : decode yB 15 = .ok (.iload 6, 2) := by decide +kernel
theorem d17 : decode yB 17 = .ok (.sipush 255, 3) := by decide +kernel
theorem d20 : decode yB 20 = .ok (.if_icmp (.le) 6, 3) := by decide +kernel
theorem d26 : decode yB 26 = .ok (.aload_n 2, 1) := by decide +kernel
theorem d27 : decode yB 27 = .ok (.iload_n 3, 1) := by decide +kernel
theorem d28 : decode yB 28 = .ok (.iload 6, 2) := by decide +kernel
theorem d30 : decode yB 30 = .ok (.i2b, 1) := by decide +kernel
theorem d31 : decode yB 31 = .ok (.bastore, 1) := by decide +kernel
theorem d32 : decode yB 32 = .ok (.iinc 1 1, 3) := by decide +kernel
theorem d35 : decode yB 35 = .ok (.iinc 3 1, 3) := by decide +kernel
theorem d38 : decode yB 38 = .ok (.iinc 5 1, 3) := by decide +kernel
theorem d41 : decode yB 41 = .ok (.goto (-38), 3) := by decide +kernel
theorem d44 : decode yB 44 = .ok (.iload 4, 2) := by decide +kernel
theorem d46 : decode yB 46 = .ok (.ireturn, 1) := by decide +kernel
def site : List Cond := []
def tab : Cond := tabOf yN yB 7 (some .int) site
def P (b : Addr) (A : Cell) (d : Addr) (B : Cell) (o q len : Nat) (args : Array Value) (s : State) : Prop := args = #[.ref b, .int (Int32.ofNat o), .ref d, .int (Int32.ofNat q), .int (Int32.ofNat len)] ∧ Ch b A s ∧ Arr .byte d B s ∧ b ≠ d ∧ o + len ≤ A.slots.size ∧ q + len ≤ B.slots.size ∧ ∀ i, i < len → ¬ 255 < cv A (o + i)
def E (b : Addr) (A : Cell) (d : Addr) (B : Cell) (o q len : Nat) (r : Option Value) (s u : State) : Prop := r = some (.int (Int32.ofNat len)) ∧ ∃ B', Put d B' s u ∧ Laid B B' q (q + len) (fun j => Value.int (lo8 (cv A (o + (j - q)))))
/-- no char of the range above 255: len; the places written hold each char's low byte -/
theorem law (l : Launch) (b : Addr) (A : Cell) (d : Addr) (B : Cell) (o q len : Nat) : Law l yN 5 5 0 0 yB 7 (some .int) site (P b A d B o q len) (E b A d B o q len) (copyLocs d q len) 0 0 := by
  refine Law.of_walk (plainFor_of_name (by decide +kernel)) (by decide +kernel) (by decide +kernel) (by decide) (fun _ _ h => by rw [h.1]; rfl) (fun _ U U' hal hh h => ⟨h.1, h.2.1.mv hal hh, h.2.2.1.mv hal hh, h.2.2.2⟩) (fun r U U' V V' h1 hal h2 h => ⟨h.1, h.2.elim fun B' q => ⟨B', q.1.mv h1 h2, q.2⟩⟩) ?_
  intro p e s m args below meth c s₁ X0 hexec hbytes hml hret hlk hnm hown hh0 W hP
  obtain ⟨rfl, hA, hB, hne, l1, l2, hp⟩ := hP
  have c1 : Steps p.tables e below (s₁.setTop (entryFrame m #[.ref b, .int (Int32.ofNat o), .ref d, .int (Int32.ofNat q), .int (Int32.ofNat len)] 7)) (s₁.setTop (mkF m 0 #[.val (.ref b), .val (.int (Int32.ofNat o)), .val (.ref d), .val (.int (Int32.ofNat q)), .val (.int (Int32.ofNat len)), .unset, .unset] [])) := entry rfl
  have hA0 := hA.1.mv X0.warmed.alike hh0
  have hB0 := hB.mv X0.warmed.alike hh0
  have a31 := hA.1.2.2.2
  have c2 : Steps p.tables e below (s₁.setTop (entryFrame m #[.ref b, .int (Int32.ofNat o), .ref d, .int (Int32.ofNat q), .int (Int32.ofNat len)] 7)) (s₁.setTop (mkF m 3 #[.val (.ref b), .val (.int (Int32.ofNat o)), .val (.ref d), .val (.int (Int32.ofNat q)), .val (.int (Int32.ofNat len)), .val (.int 0), .unset] [])) := c1.trans (by
    refine iconstV X0.here hexec rfl 0 (hb hbytes d0) (by decide) ?_
    refine XS.istore X0.here hexec rfl (hb hbytes d1) rfl rfl ?_
    exact Steps.refl _)
  have loop : ∀ (r i : Nat), i + r = len → ∀ (z : Slot), (z = .unset ∨ ∃ w, z = .val w ∧ w.category = 1) → ∀ (Tl : State) (Bk : Cell), Stand p l e { frames := 0, locals := 0, cells := 0, slots := 0 } s m #[.ref b, .int (Int32.ofNat o), .ref d, .int (Int32.ofNat q), .int (Int32.ofNat len)] below meth c Tl ([] ++ copyLocs d q i) 0 0 → Put d Bk s₁ Tl → Laid B Bk q (q + i) (fun j => Value.int (lo8 (cv A (o + (j - q))))) →
      Steps p.tables e below (s₁.setTop (entryFrame m #[.ref b, .int (Int32.ofNat o), .ref d, .int (Int32.ofNat q), .int (Int32.ofNat len)] 7)) (Tl.setTop (mkF m 3 #[.val (.ref b), .val (.int (Int32.ofNat (o + i))), .val (.ref d), .val (.int (Int32.ofNat (q + i))), .val (.int (Int32.ofNat len)), .val (.int (Int32.ofNat i)), z] [])) → ∃ (T' : State) (B' : Cell) (z' : Slot), Stand p l e { frames := 0, locals := 0, cells := 0, slots := 0 } s m #[.ref b, .int (Int32.ofNat o), .ref d, .int (Int32.ofNat q), .int (Int32.ofNat len)] below meth c T' ([] ++ copyLocs d q len) 0 0 ∧ Put d B' s₁ T' ∧ Laid B B' q (q + len) (fun j => Value.int (lo8 (cv A (o + (j - q))))) ∧
      Steps p.tables e below (s₁.setTop (entryFrame m #[.ref b, .int (Int32.ofNat o), .ref d, .int (Int32.ofNat q), .int (Int32.ofNat len)] 7)) (T'.setTop (mkF m 3 #[.val (.ref b), .val (.int (Int32.ofNat (o + len))), .val (.ref d), .val (.int (Int32.ofNat (q + len))), .val (.int (Int32.ofNat len)), .val (.int (Int32.ofNat len)), z'] [])) := by
    intro r
    induction r with
    | zero =>
      intro i hi z hz Tl Bk Xl pl fl cl
      have hil : i = len := by omega
      rw [hil] at Xl fl cl
      exact ⟨Tl, Bk, z, Xl, pl, fl, cl⟩
    | succ r ih =>
      intro i hi z hz Tl Bk Xl pl fl cl
      have all := X0.warmed.alike.symm.trans Xl.warmed.alike
      have hAl := hA0.keep all (pl.other hne hA0.1)
      have hBk := hB0.like all pl.1 fl.1 fl.2.1 fl.2.2.1
      have hlt : q + i < Bk.slots.size := by rw [fl.2.2.1]; omega
      have c3 : Steps p.tables e below (s₁.setTop (entryFrame m #[.ref b, .int (Int32.ofNat o), .ref d, .int (Int32.ofNat q), .int (Int32.ofNat len)] 7)) (Tl.setTop (mkF m 12 #[.val (.ref b), .val (.int (Int32.ofNat (o + i))), .val (.ref d), .val (.int (Int32.ofNat (q + i))), .val (.int (Int32.ofNat len)), .val (.int (Int32.ofNat i)), z] [.int (Int32.ofNat (o + i)), .ref b])) := cl.trans (by
        refine XS.iload Xl.here hexec rfl (hb hbytes d3) rfl ?_
        refine XS.iload Xl.here hexec rfl (hb hbytes d5) rfl ?_
        refine XS.icmpNo Xl.here hexec rfl (hb hbytes d7) rfl (ii_ge_f (lt32 (by omega) (by omega))) ?_
        refine XS.aloadN Xl.here hexec rfl (hb hbytes d10) rfl rfl ?_
        refine XS.iloadN Xl.here hexec rfl (hb hbytes d11) rfl ?_
        exact Steps.refl _)
      have c4 : Steps p.tables e below (s₁.setTop (entryFrame m #[.ref b, .int (Int32.ofNat o), .ref d, .int (Int32.ofNat q), .int (Int32.ofNat len)] 7)) (Tl.setTop (mkF m 13 #[.val (.ref b), .val (.int (Int32.ofNat (o + i))), .val (.ref d), .val (.int (Int32.ofNat (q + i))), .val (.int (Int32.ofNat len)), .val (.int (Int32.ofNat i)), z] [.int (cv A (o + i))])) := c3.trans (by
        refine Xl.aget hexec hAl rfl (hA.get (i := o + i) (by omega)) rfl rfl (hb hbytes d12) ?_
        exact Steps.refl _)
      have c5 : Steps p.tables e below (s₁.setTop (entryFrame m #[.ref b, .int (Int32.ofNat o), .ref d, .int (Int32.ofNat q), .int (Int32.ofNat len)] 7)) (Tl.setTop (mkF m 15 #[.val (.ref b), .val (.int (Int32.ofNat (o + i))), .val (.ref d), .val (.int (Int32.ofNat (q + i))), .val (.int (Int32.ofNat len)), .val (.int (Int32.ofNat i)), .val (.int (cv A (o + i)))] [])) := c4.trans (by
        refine XS.istoreS Xl.here hexec rfl (hb hbytes d13) rfl rfl hz ?_
        exact Steps.refl _)
      have c6 : Steps p.tables e below (s₁.setTop (entryFrame m #[.ref b, .int (Int32.ofNat o), .ref d, .int (Int32.ofNat q), .int (Int32.ofNat len)] 7)) (Tl.setTop (mkF m 31 #[.val (.ref b), .val (.int (Int32.ofNat (o + i))), .val (.ref d), .val (.int (Int32.ofNat (q + i))), .val (.int (Int32.ofNat len)), .val (.int (Int32.ofNat i)), .val (.int (cv A (o + i)))] [.int (lo8 (cv A (o + i))), .int (Int32.ofNat (q + i)), .ref d])) := c5.trans (by
        refine XS.iload Xl.here hexec rfl (hb hbytes d15) rfl ?_
        refine sipushV Xl.here hexec rfl 255 (hb hbytes d17) (by decide) ?_
        refine XS.icmpYes Xl.here hexec rfl (pc0 := 20) rfl (hb hbytes d20) rfl (ii_le_t (hp i (by omega))) (by decide) rfl ?_
        refine XS.aloadN Xl.here hexec rfl (hb hbytes d26) rfl rfl ?_
        refine XS.iloadN Xl.here hexec rfl (hb hbytes d27) rfl ?_
        refine XS.iload Xl.here hexec rfl (hb hbytes d28) rfl ?_
        refine i2b Xl.here hexec rfl (hb hbytes d30) rfl ?_
        exact Steps.refl _)
      obtain ⟨T7, X7, p7, st7⟩ := Xl.aput hexec hBk rfl hlt rfl (fits_lo8 (cv A (o + i))) (g := (mkF m 31 #[.val (.ref b), .val (.int (Int32.ofNat (o + i))), .val (.ref d), .val (.int (Int32.ofNat (q + i))), .val (.int (Int32.ofNat len)), .val (.int (Int32.ofNat i)), .val (.int (cv A (o + i)))] [.int (lo8 (cv A (o + i))), .int (Int32.ofNat (q + i)), .ref d])) rfl (rest := []) rfl (hb hbytes d31)
      have c8 : Steps p.tables e below (s₁.setTop (entryFrame m #[.ref b, .int (Int32.ofNat o), .ref d, .int (Int32.ofNat q), .int (Int32.ofNat len)] 7)) (T7.setTop (mkF m 32 #[.val (.ref b), .val (.int (Int32.ofNat (o + i))), .val (.ref d), .val (.int (Int32.ofNat (q + i))), .val (.int (Int32.ofNat len)), .val (.int (Int32.ofNat i)), .val (.int (cv A (o + i)))] [])) := c6.trans (st7 _ (Steps.refl _))
      have c9 : Steps p.tables e below (s₁.setTop (entryFrame m #[.ref b, .int (Int32.ofNat o), .ref d, .int (Int32.ofNat q), .int (Int32.ofNat len)] 7)) (T7.setTop (mkF m 3 #[.val (.ref b), .val (.int (Int32.ofNat (o + i) + 1)), .val (.ref d), .val (.int (Int32.ofNat (q + i) + 1)), .val (.int (Int32.ofNat len)), .val (.int (Int32.ofNat i + 1)), .val (.int (cv A (o + i)))] [])) := c8.trans (by
        refine iincV X7.here hexec rfl 1 (hb hbytes d32) (by decide) rfl rfl ?_
        refine iincV X7.here hexec rfl 1 (hb hbytes d35) (by decide) rfl rfl ?_
        refine iincV X7.here hexec rfl 1 (hb hbytes d38) (by decide) rfl rfl ?_
        refine XS.goto X7.here hexec rfl (pc0 := 41) rfl (hb hbytes d41) (by decide) rfl ?_
        exact Steps.refl _)
      have c10 : Steps p.tables e below (s₁.setTop (entryFrame m #[.ref b, .int (Int32.ofNat o), .ref d, .int (Int32.ofNat q), .int (Int32.ofNat len)] 7)) (T7.setTop (mkF m 3 #[.val (.ref b), .val (.int (Int32.ofNat (o + (i + 1)))), .val (.ref d), .val (.int (Int32.ofNat (q + (i + 1)))), .val (.int (Int32.ofNat len)), .val (.int (Int32.ofNat (i + 1))), .val (.int (cv A (o + i)))] [])) := by
        have := c9
        rw [succ32, succ32, succ32] at this
        exact this
      exact ih (i + 1) (by omega) _ (Or.inr ⟨_, rfl, rfl⟩) T7 _ (by rw [copyLocs_step, ← List.append_assoc]; exact X7) (pl.trans p7) (fl.step (by omega) hlt (by simp)) c10
  obtain ⟨T9, B9, z9, X9, p9, f9, g9⟩ := loop len 0 (by omega) .unset (Or.inl rfl) s₁ B (by simpa [copyLocs] using X0) ⟨hB0.1, fun _ _ => rfl, rfl⟩ (Laid.zero _ _ _) c2
  have c11 : Steps p.tables e below (s₁.setTop (entryFrame m #[.ref b, .int (Int32.ofNat o), .ref d, .int (Int32.ofNat q), .int (Int32.ofNat len)] 7)) (T9.setTop (mkF m 46 #[.val (.ref b), .val (.int (Int32.ofNat (o + len))), .val (.ref d), .val (.int (Int32.ofNat (q + len))), .val (.int (Int32.ofNat len)), .val (.int (Int32.ofNat len)), z9] [.int (Int32.ofNat len)])) := g9.trans (by
    refine XS.iload X9.here hexec rfl (hb hbytes d3) rfl ?_
    refine XS.iload X9.here hexec rfl (hb hbytes d5) rfl ?_
    refine XS.icmpYes X9.here hexec rfl (pc0 := 7) rfl (hb hbytes d7) rfl (ii_ge_t (nlt32 (by omega) (Nat.le_refl _))) (by decide) rfl ?_
    refine XS.iload X9.here hexec rfl (hb hbytes d44) rfl ?_
    exact Steps.refl _)
  exact ⟨T9, some (.int (Int32.ofNat len)), _, _, _, X9, by simp, rfl, rfl, (fun h => by cases h), ⟨rfl, B9, p9.from hh0, f9⟩, fun fs hl => c11.trans (X9.ireturnOut hexec hret rfl (Or.inl rfl) (hb hbytes d46) hl)⟩
end Cmp5
namespace Cmp3
def yN : MethodName := ⟨"java/lang/StringUTF16", "compress", "([CII)[B"⟩
abbrev yB : ByteArray := jdk_52_method_16_code
theorem d0 : decode yB 0 = .ok (.iload_n 2, 1) := by decide +kernel
theorem d1 : decode yB 1 = .ok (.newarray .byte, 2) := by decide +kernel
theorem d3 : decode yB 3 = .ok (.astore_n 3, 1) := by decide +kernel
theorem d4 : decode yB 4 = .ok (.aload_n 0, 1) := by decide +kernel
theorem d5 : decode yB 5 = .ok (.iload_n 1, 1) := by decide +kernel
theorem d6 : decode yB 6 = .ok (.aload_n 3, 1) := by decide +kernel
theorem d7 : decode yB 7 = .ok (.iconst 0, 1) := by decide +kernel
theorem d8 : decode yB 8 = .ok (.iload_n 2, 1) := by decide +kernel
theorem d9 : decode yB 9 = .ok (.invokestatic 115, 3) := by decide +kernel
theorem d12 : decode yB 12 = .ok (.istore 4, 2) := by decide +kernel
theorem d14 : decode yB 14 = .ok (.iload 4, 2) := by decide +kernel
theorem d16 : decode yB 16 = .ok (.iload_n 2, 1) := by decide +kernel
theorem d17 : decode yB 17 = .ok (.if_icmp (.eq) 40, 3) := by decide +kernel
theorem d57 : decode yB 57 = .ok (.aload_n 3, 1) := by decide +kernel
theorem d58 : decode yB 58 = .ok (.areturn, 1) := by decide +kernel
def site : List Cond := [.arrayClass .byte, Cmp5.tab] ++ staticW U16 115 Cmp5.yN
def tab : Cond := tabOf yN yB 6 (some (.array .byte)) site
def P (b : Addr) (A : Cell) (o len : Nat) (args : Array Value) (s : State) : Prop := args = #[.ref b, .int (Int32.ofNat o), .int (Int32.ofNat len)] ∧ Ch b A s ∧ o + len ≤ A.slots.size ∧ len ≤ 536870912 ∧ ∀ i, i < len → ¬ 255 < cv A (o + i)
def E (b : Addr) (A : Cell) (o len : Nat) (r : Option Value) (s u : State) : Prop := NewArr .byte "[B" len (fun j => .int (lo8 (cv A (o + j)))) r s u ∧ u.heap.size = s.heap.size + 1
/-- no char of the range above 255: a new byte[] of their low bytes -/
theorem law (l : Launch) (b : Addr) (A : Cell) (o len : Nat) : Law l yN 3 3 1 18 yB 6 (some (.array .byte)) site (P b A o len) (E b A o len) [] 1 len := by
  refine Law.of_walk (plainFor_of_name (by decide +kernel)) (by decide +kernel) (by decide +kernel) (by decide) (fun _ _ h => by rw [h.1]; rfl) (fun _ U U' hal hh h => ⟨h.1, h.2.1.mv hal hh, h.2.2⟩) (fun r U U' V V' h1 hal h2 h => ⟨NewArr.mv r U U' V V' h1 hal h2 h.1, by rw [h1, h2]; exact h.2⟩) ?_
  intro p e s m args below meth c s₁ X0 hexec hbytes hml hret hlk hnm hown hh0 W hP
  obtain ⟨rfl, hA, l1, l2, hp⟩ := hP
  have a31 := hA.1.2.2.2
  have c1 : Steps p.tables e below (s₁.setTop (entryFrame m #[.ref b, .int (Int32.ofNat o), .int (Int32.ofNat len)] 6)) (s₁.setTop (mkF m 0 #[.val (.ref b), .val (.int (Int32.ofNat o)), .val (.int (Int32.ofNat len)), .unset, .unset, .unset] [])) := entry rfl
  have c2 : Steps p.tables e below (s₁.setTop (entryFrame m #[.ref b, .int (Int32.ofNat o), .int (Int32.ofNat len)] 6)) (s₁.setTop (mkF m 1 #[.val (.ref b), .val (.int (Int32.ofNat o)), .val (.int (Int32.ofNat len)), .unset, .unset, .unset] [.int (Int32.ofNat len)])) := c1.trans (by
    refine XS.iloadN X0.here hexec rfl (hb hbytes d0) rfl ?_
    exact Steps.refl _)
  obtain ⟨T3, B3, X3, ba3, bs3, bv3, bh3, bf3, st3⟩ := X0.anew hexec (atype := .byte) (wk W (.arrayClass .byte)) rfl (by show len * 1 ≤ _; omega) (by omega) (g := (mkF m 1 #[.val (.ref b), .val (.int (Int32.ofNat o)), .val (.int (Int32.ofNat len)), .unset, .unset, .unset] [.int (Int32.ofNat len)])) rfl (hb hbytes d1) (rest := []) rfl (Nat.le_refl _) (by show 0 + len ≤ len; omega)
  rw [hh0] at ba3 st3
  have kp3 : XT.Kept s T3 := (XT.Kept.of_eq hh0).push bh3
  have hA3 := hA.keep X3.warmed.alike (kp3 _ _ hA.1.1)
  have hne : b ≠ s.heap.size := hA.1.ne
  have c4 : Steps p.tables e below (s₁.setTop (entryFrame m #[.ref b, .int (Int32.ofNat o), .int (Int32.ofNat len)] 6)) (T3.setTop (mkF m 3 #[.val (.ref b), .val (.int (Int32.ofNat o)), .val (.int (Int32.ofNat len)), .unset, .unset, .unset] [.ref s.heap.size])) := c2.trans (st3 _ (Steps.refl _))
  have c5 : Steps p.tables e below (s₁.setTop (entryFrame m #[.ref b, .int (Int32.ofNat o), .int (Int32.ofNat len)] 6)) (T3.setTop (mkF m 9 #[.val (.ref b), .val (.int (Int32.ofNat o)), .val (.int (Int32.ofNat len)), .val (.ref s.heap.size), .unset, .unset] [.int (Int32.ofNat len), .int 0, .ref s.heap.size, .int (Int32.ofNat o), .ref b])) := c4.trans (by
    refine XS.astoreN X3.here hexec rfl (hb hbytes d3) rfl rfl rfl ?_
    refine XS.aloadN X3.here hexec rfl (hb hbytes d4) rfl rfl ?_
    refine XS.iloadN X3.here hexec rfl (hb hbytes d5) rfl ?_
    refine XS.aloadN X3.here hexec rfl (hb hbytes d6) rfl rfl ?_
    refine iconstV X3.here hexec rfl 0 (hb hbytes d7) (by decide) ?_
    refine XS.iloadN X3.here hexec rfl (hb hbytes d8) rfl ?_
    exact Steps.refl _)
  obtain ⟨v6, T6, X6, E6, g6⟩ := X3.callS hexec (Cmp5.law l b A s.heap.size B3 o 0 len) hown (wks W (staticW U16 115 Cmp5.yN)) (wk W Cmp5.tab) (W := 0) (Nat.le_of_ble_eq_true rfl) (Nat.le_of_ble_eq_true rfl) (Nat.le_refl _) (by show 0 + len + 0 ≤ len; omega) (g := (mkF m 9 #[.val (.ref b), .val (.int (Int32.ofNat o)), .val (.int (Int32.ofNat len)), .val (.ref s.heap.size), .unset, .unset] [.int (Int32.ofNat len), .int (Int32.ofNat 0), .ref s.heap.size, .int (Int32.ofNat o), .ref b])) rfl (by rw [hml]; rfl) c5 (argsL := [.ref b, .int (Int32.ofNat o), .ref s.heap.size, .int (Int32.ofNat 0), .int (Int32.ofNat len)]) (rest := []) rfl rfl (by show 2 * 0 + 0 ≤ _; decide) (hb hbytes d9) (⟨rfl, hA3, ba3, hne, l1, by rw [bs3]; simp, hp⟩)
  obtain ⟨rfl, B6, p6, f6⟩ := E6
  have c7 : Steps p.tables e below (s₁.setTop (entryFrame m #[.ref b, .int (Int32.ofNat o), .int (Int32.ofNat len)] 6)) (T6.setTop (mkF m 12 #[.val (.ref b), .val (.int (Int32.ofNat o)), .val (.int (Int32.ofNat len)), .val (.ref s.heap.size), .unset, .unset] [.int (Int32.ofNat len)])) := g6
  have c8 : Steps p.tables e below (s₁.setTop (entryFrame m #[.ref b, .int (Int32.ofNat o), .int (Int32.ofNat len)] 6)) (T6.setTop (mkF m 58 #[.val (.ref b), .val (.int (Int32.ofNat o)), .val (.int (Int32.ofNat len)), .val (.ref s.heap.size), .val (.int (Int32.ofNat len)), .unset] [.ref s.heap.size])) := c7.trans (by
    refine XS.istore X6.here hexec rfl (hb hbytes d12) rfl rfl ?_
    refine XS.iload X6.here hexec rfl (hb hbytes d14) rfl ?_
    refine XS.iloadN X6.here hexec rfl (hb hbytes d16) rfl ?_
    refine XS.icmpYes X6.here hexec rfl (pc0 := 17) rfl (hb hbytes d17) rfl (ii_eq_t rfl) (by decide) rfl ?_
    refine XS.aloadN X6.here hexec rfl (hb hbytes d57) rfl rfl ?_
    exact Steps.refl _)
  have X8 := X6.wide (L' := []) (cells' := 1) (slots' := len) (fun x hx hlt => by
    simp only [List.nil_append, copyLocs, List.mem_map, List.mem_range] at hx
    obtain ⟨i, -, rfl⟩ := hx
    exact absurd hlt (Nat.lt_irrefl _)) (Nat.le_refl _) (by omega)
  exact ⟨T6, some (.ref s.heap.size), _, _, _, X8, rfl, rfl, rfl, (fun h => by cases h), ⟨⟨rfl, B6, ba3.like (X3.warmed.alike.symm.trans X6.warmed.alike) p6.1 f6.1 f6.2.1 f6.2.2.1, f6.2.1.trans bv3, by rw [X6.warmed.alike.findClass, f6.1]; exact bf3, by rw [f6.2.2.1, bs3]; simp, fun j hj => by rw [f6.2.2.2 j, if_pos (by omega)]; rfl, kp3.put p6 (Nat.le_refl _)⟩, by rw [p6.2.2, bh3, hh0]; simp⟩, fun fs hl => c8.trans (X8.areturnOut hexec rfl hret rfl (hb hbytes d58) hl)⟩
end Cmp3
namespace CodL
def yN : MethodName := ⟨"java/lang/StringUTF16", "coderFromArrayLen", "([BI)B"⟩
abbrev yB : ByteArray := jdk_52_method_15_code
theorem d0 : decode yB 0 = .ok (.iload_n 1, 1) := by decide +kernel
theorem d1 : decode yB 1 = .ok (.aload_n 0, 1) := by decide +kernel
theorem d2 : decode yB 2 = .ok (.arraylength, 1) := by decide +kernel
theorem d3 : decode yB 3 = .ok (.isub, 1) := by decide +kernel
theorem d4 : decode yB 4 = .ok (.bipush 31, 2) := by decide +kernel
theorem d6 : decode yB 6 = .ok (.iushr, 1) := by decide +kernel
theorem d7 : decode yB 7 = .ok (.i2b, 1) := by decide +kernel
theorem d8 : decode yB 8 = .ok (.ireturn, 1) := by decide +kernel
def site : List Cond := []
def tab : Cond := tabOf yN yB 2 (some .byte) site
def P (d : Addr) (B : Cell) (args : Array Value) (s : State) : Prop := args = #[.ref d, .int (Int32.ofNat B.slots.size)] ∧ Arr .byte d B s
def E (r : Option Value) (s u : State) : Prop := XT.PureE (some (.int 0)) r s u
/-- an array as long as the number of chars: LATIN1 -/
theorem law (l : Launch) (d : Addr) (B : Cell) : Law l yN 2 2 0 0 yB 2 (some .byte) site (P d B) E [] 0 0 := by
  refine Law.of_walk (plainFor_of_name (by decide +kernel)) (by decide +kernel) (by decide +kernel) (by decide) (fun _ _ h => by rw [h.1]; rfl) (fun _ U U' hal hh h => ⟨h.1, h.2.mv hal hh⟩) (fun r U U' V V' h1 hal h2 h => XT.PureE.mv r U U' V V' h1 hal h2 h) ?_
  intro p e s m args below meth c s₁ X0 hexec hbytes hml hret hlk hnm hown hh0 W hP
  obtain ⟨rfl, hB⟩ := hP
  have hB0 := hB.mv X0.warmed.alike hh0
  have c1 : Steps p.tables e below (s₁.setTop (entryFrame m #[.ref d, .int (Int32.ofNat B.slots.size)] 2)) (s₁.setTop (mkF m 0 #[.val (.ref d), .val (.int (Int32.ofNat B.slots.size))] [])) := entry rfl
  have c2 : Steps p.tables e below (s₁.setTop (entryFrame m #[.ref d, .int (Int32.ofNat B.slots.size)] 2)) (s₁.setTop (mkF m 2 #[.val (.ref d), .val (.int (Int32.ofNat B.slots.size))] [.ref d, .int (Int32.ofNat B.slots.size)])) := c1.trans (by
    refine XS.iloadN X0.here hexec rfl (hb hbytes d0) rfl ?_
    refine XS.aloadN X0.here hexec rfl (hb hbytes d1) rfl rfl ?_
    exact Steps.refl _)
  have c3 : Steps p.tables e below (s₁.setTop (entryFrame m #[.ref d, .int (Int32.ofNat B.slots.size)] 2)) (s₁.setTop (mkF m 8 #[.val (.ref d), .val (.int (Int32.ofNat B.slots.size))] [.int (lo8 (ushr (Int32.ofNat B.slots.size - Int32.ofNat B.slots.size) 31))])) := c2.trans (by
    refine X0.alen hexec hB0 rfl rfl (hb hbytes d2) ?_
    refine XS.isub X0.here hexec rfl (hb hbytes d3) rfl ?_
    refine bipushV X0.here hexec rfl 31 (hb hbytes d4) (by decide) ?_
    refine iushr X0.here hexec rfl (hb hbytes d6) rfl ?_
    refine i2b X0.here hexec rfl (hb hbytes d7) rfl ?_
    exact Steps.refl _)
  have e0 : lo8 (ushr (Int32.ofNat B.slots.size - Int32.ofNat B.slots.size) 31) = 0 := by rw [Int32.sub_self]; decide
  rw [e0] at c3
  exact ⟨s₁, some (.int 0), _, _, _, X0, rfl, rfl, rfl, (fun h => by cases h), ⟨rfl, hh0⟩, fun fs hl => c3.trans (X0.ireturnOut hexec hret rfl (Or.inr (Or.inr (Or.inl rfl))) (hb hbytes d8) hl)⟩
end CodL
/-- the String at a is Latin-1 over a new byte[] (the heap's one new cell): the low bytes of the len chars of A from o on; every cell but a is kept -/
def Got (a : Addr) (D : Cell) (fV fC : Field) (A : Cell) (o len : Nat) (r : Option Value) (s u : State) : Prop := r = none ∧ ∃ D' V : Cell, Blank "java/lang/String" a D' u ∧ Same D D' [fV.slot, fC.slot] ∧ D'.slots[fV.slot]? = some (.ref s.heap.size) ∧ D'.slots[fC.slot]? = some (.int 0) ∧ Arr .byte s.heap.size V u ∧ V.vm = .none ∧ u.vm.findClass "[B" = some V.cls ∧ V.slots.size = len ∧ (∀ j, j < len → V.slots[j]? = some (.int (lo8 (cv A (o + j))))) ∧ (∀ (y : Addr) (c : Cell), y ≠ a → s.heap[y]? = some c → u.heap[y]? = some c) ∧ u.heap.size = s.heap.size + 1
theorem Got.mv {a : Addr} {D A : Cell} {fV fC : Field} {o len : Nat} : ∀ r (U U' V V' : State), U'.heap = U.heap → V.vm.Alike V'.vm → V'.heap = V.heap → Got a D fV fC A o len r U V → Got a D fV fC A o len r U' V' :=
  fun r U U' V V' h1 hal h2 ⟨e0, D', X, a1, a2, a3, a4, a5, a6, a7, a8, a9, a10, a11⟩ => ⟨e0, D', X, a1.mv hal h2, a2, by rw [h1]; exact a3, a4, by rw [h1]; exact a5.mv hal h2, a6, by rw [hal.findClass]; exact a7, a8, a9, by rw [h1, h2]; exact a10, by rw [h1, h2]; exact a11⟩
namespace New4
def yN : MethodName := ⟨"java/lang/String", "<init>", "([CIILjava/lang/Void;)V"⟩
abbrev yB : ByteArray := jdk_42_method_149_code
theorem d0 : decode yB 0 = .ok (.aload_n 0, 1) := by decide +kernel
theorem d1 : decode yB 1 = .ok (.invokespecial 1, 3) := by decide +kernel
theorem d4 : decode yB 4 = .ok (.iload_n 3, 1) := by decide +kernel
theorem d5 : decode yB 5 = .ok (.ifCond (.ne) 22, 3) := by decide +kernel
theorem d27 : decode yB 27 = .ok (.getstatic 38, 3) := by decide +kernel
theorem d30 : decode yB 30 = .ok (.ifCond (.eq) 28, 3) := by decide +kernel
theorem d33 : decode yB 33 = .ok (.aload_n 1, 1) := by decide +kernel
theorem d34 : decode yB 34 = .ok (.iload_n 2, 1) := by decide +kernel
theorem d35 : decode yB 35 = .ok (.iload_n 3, 1) := by decide +kernel
theorem d36 : decode yB 36 = .ok (.invokestatic 177, 3) := by decide +kernel
theorem d39 : decode yB 39 = .ok (.astore 5, 2) := by decide +kernel
theorem d41 : decode yB 41 = .ok (.aload_n 0, 1) := by decide +kernel
theorem d42 : decode yB 42 = .ok (.aload 5, 2) := by decide +kernel
theorem d44 : decode yB 44 = .ok (.iload_n 3, 1) := by decide +kernel
theorem d45 : decode yB 45 = .ok (.invokestatic 47, 3) := by decide +kernel
theorem d48 : decode yB 48 = .ok (.putfield 15, 3) := by decide +kernel
theorem d51 : decode yB 51 = .ok (.aload_n 0, 1) := by decide +kernel
theorem d52 : decode yB 52 = .ok (.aload 5, 2) := by decide +kernel
theorem d54 : decode yB 54 = .ok (.putfield 9, 3) := by decide +kernel
theorem d57 : decode yB 57 = .ok (.return_, 1) := by decide +kernel
def site : List Cond := [.fieldLink "java/lang/String" 38 "java/lang/String" "COMPACT_STRINGS" "Z", Cmp3.tab, CodL.tab, .laysFinal "java/lang/String" "java/lang/String" "value" "[B", .fieldLink "java/lang/String" 9 "java/lang/String" "value" "[B", .laysFinal "java/lang/String" "java/lang/String" "coder" "B", .fieldLink "java/lang/String" 15 "java/lang/String" "coder" "B"] ++ objW "java/lang/String" 1 ++ staticW "java/lang/String" 177 Cmp3.yN ++ staticW "java/lang/String" 47 CodL.yN
def tab : Cond := tabOf yN yB 6 none site
def P (a : Addr) (D : Cell) (fV fC : Field) (b : Addr) (A : Cell) (z : Int32) (o len : Nat) (args : Array Value) (s : State) : Prop := args = #[.ref a, .ref b, .int (Int32.ofNat o), .int (Int32.ofNat len), .null] ∧ Blank "java/lang/String" a D s ∧ Found "java/lang/String" "value" "[B" fV s ∧ Found "java/lang/String" "coder" "B" fC s ∧ Ch b A s ∧ StaticIs s "java/lang/String" "COMPACT_STRINGS" "Z" (.int z) ∧ ¬ z = 0 ∧ 0 < len ∧ o + len ≤ A.slots.size ∧ len ≤ 536870912 ∧ ∀ i, i < len → ¬ 255 < cv A (o + i)
def E (a : Addr) (D : Cell) (fV fC : Field) (A : Cell) (o len : Nat) (r : Option Value) (s u : State) : Prop := Got a D fV fC A o len r s u
/-- len > 0, no char of the range above 255: a Latin-1 String of their low bytes -/
theorem law (l : Launch) (a : Addr) (D : Cell) (fV fC : Field) (b : Addr) (A : Cell) (z : Int32) (o len : Nat) : Law l yN 5 4 2 35 yB 6 none site (P a D fV fC b A z o len) (E a D fV fC A o len) [⟨a, fC.slot⟩, ⟨a, fV.slot⟩] 1 len := by
  refine Law.of_walk (plainFor_of_name (by decide +kernel)) (by decide +kernel) (by decide +kernel) (by decide) (fun _ _ h => by rw [h.1]; rfl) (fun _ U U' hal hh h => ⟨h.1, h.2.1.mv hal hh, h.2.2.1.al hal, h.2.2.2.1.al hal, h.2.2.2.2.1.mv hal hh, h.2.2.2.2.2.1.there hal hh, h.2.2.2.2.2.2⟩) (fun r U U' V V' h1 hal h2 h => Got.mv r U U' V V' h1 hal h2 h) ?_
  intro p e s m args below meth c s₁ X0 hexec hbytes hml hret hlk hnm hown hh0 W hP
  obtain ⟨rfl, hB, f1, f2, hA, s1, hz, l0, l1, l2, hp⟩ := hP
  have a31 := hA.1.2.2.2
  have c1 : Steps p.tables e below (s₁.setTop (entryFrame m #[.ref a, .ref b, .int (Int32.ofNat o), .int (Int32.ofNat len), .null] 6)) (s₁.setTop (mkF m 0 #[.val (.ref a), .val (.ref b), .val (.int (Int32.ofNat o)), .val (.int (Int32.ofNat len)), .val .null, .unset] [])) := entry rfl
  have c2 : Steps p.tables e below (s₁.setTop (entryFrame m #[.ref a, .ref b, .int (Int32.ofNat o), .int (Int32.ofNat len), .null] 6)) (s₁.setTop (mkF m 1 #[.val (.ref a), .val (.ref b), .val (.int (Int32.ofNat o)), .val (.int (Int32.ofNat len)), .val .null, .unset] [.ref a])) := c1.trans (by
    refine XS.aloadN X0.here hexec rfl (hb hbytes d0) rfl rfl ?_
    exact Steps.refl _)
  obtain ⟨T3, X3, q3, st3⟩ := X0.oinit hexec hown (wks W (objW "java/lang/String" 1)) (g := (mkF m 1 #[.val (.ref a), .val (.ref b), .val (.int (Int32.ofNat o)), .val (.int (Int32.ofNat len)), .val .null, .unset] [.ref a])) rfl (by rw [hml]; rfl) (rest := []) rfl (hb hbytes d1) (W := 0) (by show 2 * 0 + 0 ≤ _; decide) (Nat.le_of_ble_eq_true rfl) (Nat.le_of_ble_eq_true rfl)
  have hh3 := q3.trans hh0
  have c4 : Steps p.tables e below (s₁.setTop (entryFrame m #[.ref a, .ref b, .int (Int32.ofNat o), .int (Int32.ofNat len), .null] 6)) (T3.setTop (mkF m 27 #[.val (.ref a), .val (.ref b), .val (.int (Int32.ofNat o)), .val (.int (Int32.ofNat len)), .val .null, .unset] [])) := (c2.trans (st3 _ (Steps.refl _))).trans (by
    refine XS.iloadN X3.here hexec rfl (hb hbytes d4) rfl ?_
    refine XS.ifYes X3.here hexec rfl (pc0 := 5) rfl (hb hbytes d5) rfl (i0_ne_t (nz32 (by omega) l0)) (by decide) rfl ?_
    exact Steps.refl _)
  obtain ⟨T5, X5, q5, st5⟩ := X3.sget hexec hown (wk W (.fieldLink "java/lang/String" 38 "java/lang/String" "COMPACT_STRINGS" "Z")) s1 (fun _ _ h => by rw [hh3]; exact h) (g := (mkF m 27 #[.val (.ref a), .val (.ref b), .val (.int (Int32.ofNat o)), .val (.int (Int32.ofNat len)), .val .null, .unset] [])) rfl (hb hbytes d27)
  have hh5 := q5.trans hh3
  have c6 : Steps p.tables e below (s₁.setTop (entryFrame m #[.ref a, .ref b, .int (Int32.ofNat o), .int (Int32.ofNat len), .null] 6)) (T5.setTop (mkF m 30 #[.val (.ref a), .val (.ref b), .val (.int (Int32.ofNat o)), .val (.int (Int32.ofNat len)), .val .null, .unset] [.int z])) := c4.trans (st5 _ (Steps.refl _))
  have c7 : Steps p.tables e below (s₁.setTop (entryFrame m #[.ref a, .ref b, .int (Int32.ofNat o), .int (Int32.ofNat len), .null] 6)) (T5.setTop (mkF m 36 #[.val (.ref a), .val (.ref b), .val (.int (Int32.ofNat o)), .val (.int (Int32.ofNat len)), .val .null, .unset] [.int (Int32.ofNat len), .int (Int32.ofNat o), .ref b])) := c6.trans (by
    refine XS.ifNo X5.here hexec rfl (hb hbytes d30) rfl (i0_eq_f hz) ?_
    refine XS.aloadN X5.here hexec rfl (hb hbytes d33) rfl rfl ?_
    refine XS.iloadN X5.here hexec rfl (hb hbytes d34) rfl ?_
    refine XS.iloadN X5.here hexec rfl (hb hbytes d35) rfl ?_
    exact Steps.refl _)
  obtain ⟨v8, T8, X8, E8, g8⟩ := X5.callS hexec (Cmp3.law l b A o len) hown (wks W (staticW "java/lang/String" 177 Cmp3.yN)) (wk W Cmp3.tab) (W := 0) (Nat.le_of_ble_eq_true rfl) (Nat.le_of_ble_eq_true rfl) (Nat.le_refl _) (by show 0 + len ≤ len; omega) (g := (mkF m 36 #[.val (.ref a), .val (.ref b), .val (.int (Int32.ofNat o)), .val (.int (Int32.ofNat len)), .val .null, .unset] [.int (Int32.ofNat len), .int (Int32.ofNat o), .ref b])) rfl (by rw [hml]; rfl) c7 (argsL := [.ref b, .int (Int32.ofNat o), .int (Int32.ofNat len)]) (rest := []) rfl rfl (by show 2 * 0 + 0 ≤ _; decide) (hb hbytes d36) (⟨rfl, hA.mv X5.warmed.alike hh5, l1, l2, hp⟩)
  obtain ⟨e8, z8⟩ := E8
  obtain ⟨rfl, N, n1, n2, n3, n4, n5, n6⟩ := NewArr.mv _ T5 s _ _ hh5.symm (Vm.Alike.refl _) rfl e8
  rw [hh5] at z8
  have hB1 := hB.keep X8.warmed.alike (n6 _ _ hB.1)
  have hne : s.heap.size ≠ a := (Nat.ne_of_lt (Array.getElem?_eq_some_iff.mp hB.1).1).symm
  have c9 : Steps p.tables e below (s₁.setTop (entryFrame m #[.ref a, .ref b, .int (Int32.ofNat o), .int (Int32.ofNat len), .null] 6)) (T8.setTop (mkF m 39 #[.val (.ref a), .val (.ref b), .val (.int (Int32.ofNat o)), .val (.int (Int32.ofNat len)), .val .null, .unset] [.ref s.heap.size])) := g8
  have c10 : Steps p.tables e below (s₁.setTop (entryFrame m #[.ref a, .ref b, .int (Int32.ofNat o), .int (Int32.ofNat len), .null] 6)) (T8.setTop (mkF m 45 #[.val (.ref a), .val (.ref b), .val (.int (Int32.ofNat o)), .val (.int (Int32.ofNat len)), .val .null, .val (.ref s.heap.size)] [.int (Int32.ofNat N.slots.size), .ref s.heap.size, .ref a])) := by
    have hc : Steps p.tables e below (s₁.setTop (entryFrame m #[.ref a, .ref b, .int (Int32.ofNat o), .int (Int32.ofNat len), .null] 6)) (T8.setTop (mkF m 45 #[.val (.ref a), .val (.ref b), .val (.int (Int32.ofNat o)), .val (.int (Int32.ofNat len)), .val .null, .val (.ref s.heap.size)] [.int (Int32.ofNat len), .ref s.heap.size, .ref a])) := c9.trans (by
      refine XS.astore X8.here hexec rfl (hb hbytes d39) rfl rfl rfl ?_
      refine XS.aloadN X8.here hexec rfl (hb hbytes d41) rfl rfl ?_
      refine XS.aload X8.here hexec rfl (hb hbytes d42) rfl rfl ?_
      refine XS.iloadN X8.here hexec rfl (hb hbytes d44) rfl ?_
      exact Steps.refl _)
    rw [n4]; exact hc
  obtain ⟨v11, T11, X11, E11, g11⟩ := X8.callS hexec (CodL.law l s.heap.size N) hown (wks W (staticW "java/lang/String" 47 CodL.yN)) (wk W CodL.tab) (W := 1) (Nat.le_of_ble_eq_true rfl) (Nat.le_of_ble_eq_true rfl) (Nat.le_refl _) (by show 0 + len + 0 ≤ len; omega) (g := (mkF m 45 #[.val (.ref a), .val (.ref b), .val (.int (Int32.ofNat o)), .val (.int (Int32.ofNat len)), .val .null, .val (.ref s.heap.size)] [.int (Int32.ofNat N.slots.size), .ref s.heap.size, .ref a])) rfl (by rw [hml]; rfl) c10 (argsL := [.ref s.heap.size, .int (Int32.ofNat N.slots.size)]) (rest := [.ref a]) rfl rfl (by show 2 * 0 + (1 + 0) ≤ _; decide) (hb hbytes d45) (⟨rfl, n1⟩)
  obtain ⟨rfl, q11⟩ := E11
  have hB11 := hB1.mv (X8.warmed.alike.symm.trans X11.warmed.alike) q11
  have c12 : Steps p.tables e below (s₁.setTop (entryFrame m #[.ref a, .ref b, .int (Int32.ofNat o), .int (Int32.ofNat len), .null] 6)) (T11.setTop (mkF m 48 #[.val (.ref a), .val (.ref b), .val (.int (Int32.ofNat o)), .val (.int (Int32.ofNat len)), .val .null, .val (.ref s.heap.size)] [.int 0, .ref a])) := g11
  obtain ⟨T13, X13, p13, bl13, sl13, st13⟩ := X11.finit hexec hown (wk W (.fieldLink "java/lang/String" 15 "java/lang/String" "coder" "B")) (Or.inr ⟨_, (wk W (.laysFinal "java/lang/String" "java/lang/String" "coder" "B"))⟩) (Or.inl ⟨rfl, hnm⟩) f2 (Or.inl rfl) hB11 (t := .byte) (by decide +kernel) rfl (g := (mkF m 48 #[.val (.ref a), .val (.ref b), .val (.int (Int32.ofNat o)), .val (.int (Int32.ofNat len)), .val .null, .val (.ref s.heap.size)] [.int 0, .ref a])) rfl (rest := []) rfl (hb hbytes d48)
  have c14 : Steps p.tables e below (s₁.setTop (entryFrame m #[.ref a, .ref b, .int (Int32.ofNat o), .int (Int32.ofNat len), .null] 6)) (T13.setTop (mkF m 54 #[.val (.ref a), .val (.ref b), .val (.int (Int32.ofNat o)), .val (.int (Int32.ofNat len)), .val .null, .val (.ref s.heap.size)] [.ref s.heap.size, .ref a])) := (c12.trans (st13 _ (Steps.refl _))).trans (by
    refine XS.aloadN X13.here hexec rfl (hb hbytes d51) rfl rfl ?_
    refine XS.aload X13.here hexec rfl (hb hbytes d52) rfl rfl ?_
    exact Steps.refl _)
  obtain ⟨T15, X15, p15, bl15, sl15, st15⟩ := X13.finit hexec hown (wk W (.fieldLink "java/lang/String" 9 "java/lang/String" "value" "[B")) (Or.inr ⟨_, (wk W (.laysFinal "java/lang/String" "java/lang/String" "value" "[B"))⟩) (Or.inl ⟨rfl, hnm⟩) f1 (Or.inl rfl) bl13 (t := (.array .byte)) (by decide +kernel) rfl (g := (mkF m 54 #[.val (.ref a), .val (.ref b), .val (.int (Int32.ofNat o)), .val (.int (Int32.ofNat len)), .val .null, .val (.ref s.heap.size)] [.ref s.heap.size, .ref a])) rfl (rest := []) rfl (hb hbytes d54)
  have c16 : Steps p.tables e below (s₁.setTop (entryFrame m #[.ref a, .ref b, .int (Int32.ofNat o), .int (Int32.ofNat len), .null] 6)) (T15.setTop (mkF m 57 #[.val (.ref a), .val (.ref b), .val (.int (Int32.ofNat o)), .val (.int (Int32.ofNat len)), .val .null, .val (.ref s.heap.size)] [])) := c14.trans (st15 _ (Steps.refl _))
  have ap := apart (Or.inr ⟨_, (wk W (.laysFinal "java/lang/String" "java/lang/String" "value" "[B"))⟩) (Or.inr ⟨_, (wk W (.laysFinal "java/lang/String" "java/lang/String" "coder" "B"))⟩) f1 f2 (t₁ := .array .byte) (t₂ := .byte) (by decide +kernel) (by decide +kernel) (by decide)
  have al := X8.warmed.alike.symm.trans X15.warmed.alike
  have n7 : T11.heap[s.heap.size]? = some N := by rw [q11]; exact n1.1
  exact ⟨T15, none, _, _, _, X15, by simp, rfl, by omega, (fun _ => rfl), ⟨rfl, _, N, bl15, ((Same.refl D _).set _ (by simp)).set _ (by simp), sl15, (Cell.slots_setSlot_ne _ ap).trans sl13, n1.keep al (p15.other hne (p13.other hne n7)), n2, by rw [al.findClass]; exact n3, n4, n5, fun y c h1 h2 => p15.other h1 (p13.other h1 (by rw [q11]; exact n6 y c h2)), by rw [p15.2.2, p13.2.2, q11]; exact z8⟩, fun fs hl => c16.trans (X15.returnOut hexec hret (hb hbytes d57) hl)⟩
end New4
namespace New1
def yN : MethodName := ⟨"java/lang/String", "<init>", "([C)V"⟩
abbrev yB : ByteArray := jdk_42_method_3_code
theorem d0 : decode yB 0 = .ok (.aload_n 0, 1) := by decide +kernel
theorem d1 : decode yB 1 = .ok (.aload_n 1, 1) := by decide +kernel
theorem d2 : decode yB 2 = .ok (.iconst 0, 1) := by decide +kernel
theorem d3 : decode yB 3 = .ok (.aload_n 1, 1) := by decide +kernel
theorem d4 : decode yB 4 = .ok (.arraylength, 1) := by decide +kernel
theorem d5 : decode yB 5 = .ok (.aconst_null, 1) := by decide +kernel
theorem d6 : decode yB 6 = .ok (.invokespecial 27, 3) := by decide +kernel
theorem d9 : decode yB 9 = .ok (.return_, 1) := by decide +kernel
def site : List Cond := [New4.tab] ++ initW "java/lang/String" 27 New4.yN
def tab : Cond := tabOf yN yB 2 none site
def P (a : Addr) (D : Cell) (fV fC : Field) (b : Addr) (A : Cell) (z : Int32) (args : Array Value) (s : State) : Prop := args = #[.ref a, .ref b] ∧ Blank "java/lang/String" a D s ∧ Found "java/lang/String" "value" "[B" fV s ∧ Found "java/lang/String" "coder" "B" fC s ∧ Ch b A s ∧ StaticIs s "java/lang/String" "COMPACT_STRINGS" "Z" (.int z) ∧ ¬ z = 0 ∧ 0 < A.slots.size ∧ A.slots.size ≤ 536870912 ∧ ∀ i, i < A.slots.size → ¬ 255 < cv A i
def E (a : Addr) (D : Cell) (fV fC : Field) (A : Cell) (r : Option Value) (s u : State) : Prop := Got a D fV fC A 0 A.slots.size r s u
/-- new String(chars), not empty, no char above 255: a Latin-1 String of their low bytes -/
theorem law (l : Launch) (a : Addr) (D : Cell) (fV fC : Field) (b : Addr) (A : Cell) (z : Int32) : Law l yN 2 1 3 52 yB 2 none site (P a D fV fC b A z) (E a D fV fC A) [⟨a, fC.slot⟩, ⟨a, fV.slot⟩] 1 A.slots.size := by
  refine Law.of_walk (plainFor_of_name (by decide +kernel)) (by decide +kernel) (by decide +kernel) (by decide) (fun _ _ h => by rw [h.1]; rfl) (fun _ U U' hal hh h => ⟨h.1, h.2.1.mv hal hh, h.2.2.1.al hal, h.2.2.2.1.al hal, h.2.2.2.2.1.mv hal hh, h.2.2.2.2.2.1.there hal hh, h.2.2.2.2.2.2⟩) (fun r U U' V V' h1 hal h2 h => Got.mv r U U' V V' h1 hal h2 h) ?_
  intro p e s m args below meth c s₁ X0 hexec hbytes hml hret hlk hnm hown hh0 W hP
  obtain ⟨rfl, hB, f1, f2, hA, s1, hz, l0, l2, hp⟩ := hP
  have c1 : Steps p.tables e below (s₁.setTop (entryFrame m #[.ref a, .ref b] 2)) (s₁.setTop (mkF m 0 #[.val (.ref a), .val (.ref b)] [])) := entry rfl
  have c2 : Steps p.tables e below (s₁.setTop (entryFrame m #[.ref a, .ref b] 2)) (s₁.setTop (mkF m 6 #[.val (.ref a), .val (.ref b)] [.null, .int (Int32.ofNat A.slots.size), .int 0, .ref b, .ref a])) := c1.trans (by
    refine XS.aloadN X0.here hexec rfl (hb hbytes d0) rfl rfl ?_
    refine XS.aloadN X0.here hexec rfl (hb hbytes d1) rfl rfl ?_
    refine iconstV X0.here hexec rfl 0 (hb hbytes d2) (by decide) ?_
    refine XS.aloadN X0.here hexec rfl (hb hbytes d3) rfl rfl ?_
    refine X0.alen hexec (hA.1.mv X0.warmed.alike hh0) rfl rfl (hb hbytes d4) ?_
    refine XS.aconstNull X0.here hexec rfl (hb hbytes d5) ?_
    exact Steps.refl _)
  obtain ⟨v3, T3, X3, E3, g3⟩ := X0.callN hexec (New4.law l a D fV fC b A z 0 A.slots.size) rfl hown (wks W (initW "java/lang/String" 27 New4.yN)) (W New4.tab (by simp only [site, List.mem_cons, List.mem_append, true_or, or_true])) (W := 0) (Nat.le_of_ble_eq_true rfl) (Nat.le_of_ble_eq_true rfl) (Nat.le_refl _) (by show 0 + A.slots.size ≤ A.slots.size; omega) (g := (mkF m 6 #[.val (.ref a), .val (.ref b)] [.null, .int (Int32.ofNat A.slots.size), .int (Int32.ofNat 0), .ref b, .ref a])) rfl (by rw [hml]; rfl) c2 (argsL := [.ref b, .int (Int32.ofNat 0), .int (Int32.ofNat A.slots.size), .null]) (rest := []) rfl rfl (by show 2 * 0 + 0 ≤ _; decide) (hb hbytes d6) (⟨rfl, hB.mv X0.warmed.alike hh0, f1.al X0.warmed.alike, f2.al X0.warmed.alike, hA.mv X0.warmed.alike hh0, s1.there X0.warmed.alike hh0, hz, l0, by omega, l2, fun i hi => by rw [Nat.zero_add]; exact hp i hi⟩)
  have e0 := Got.mv _ s₁ s _ _ hh0.symm (Vm.Alike.refl _) rfl E3
  obtain rfl := e0.1
  have c4 : Steps p.tables e below (s₁.setTop (entryFrame m #[.ref a, .ref b] 2)) (T3.setTop (mkF m 9 #[.val (.ref a), .val (.ref b)] [])) := g3
  exact ⟨T3, none, _, _, _, X3, by simp, rfl, by omega, (fun _ => rfl), e0, fun fs hl => c4.trans (X3.returnOut hexec hret (hb hbytes d9) hl)⟩
theorem pays {l : Launch} {R : Room} {p : Program} {e : Env} {below : List Frame} {s : State} {sargs : Array Value} {len W : Nat} (a : Addr) (D : Cell) (fV fC : Field) (b : Addr) (A : Cell) (z : Int32) (htab : tab.before sargs s = true) (hfr : 4 ≤ R.frames) (hlo : W + 65 ≤ R.locals) :
    Back l R p e below s sargs yN len W (fun A₁ a₁ => A₁.cells + 1 ≤ R.cells ∧ A₁.slots + A.slots.size ≤ R.slots ∧ P a D fV fC b A z a₁ A₁.U) (fun A₁ _ v₁ B₁ => E a D fV fC A v₁ A₁.U B₁.U ∧ B₁.locs = A₁.locs ++ [⟨a, fC.slot⟩, ⟨a, fV.slot⟩] ∧ B₁.cells = A₁.cells + 1 ∧ B₁.slots = A₁.slots + A.slots.size) :=
  (law l a D fV fC b A z).pays htab hfr (by omega)
end New1
/-- the byte, read back as charAt reads it, is the char -/
theorem lo8_mask {x : Int32} (h0 : ¬ x < 0) (h1 : ¬ 255 < x) : lo8 x &&& 255 = x := by
  have t : ∀ k : Fin 256, lo8 (Int32.ofNat k.val) &&& 255 = Int32.ofNat k.val := by decide +kernel
  rw [Int32.lt_iff_toInt_lt] at h0 h1
  have e0 : (0 : Int32).toInt = 0 := rfl
  have e1 : (255 : Int32).toInt = 255 := rfl
  obtain ⟨k, hk⟩ : ∃ k : Nat, x.toInt = k := ⟨x.toInt.toNat, by omega⟩
  have hx : x = Int32.ofNat k := Int32.toInt_inj.mp (by rw [hk, Int32.toInt_ofNat_small (by omega)])
  rw [hx]
  exact t ⟨k, by omega⟩
end StrChars
namespace StrChars.Road
open Jvm Sem ClassFile Op Lib Jvm.Stand Jvm.Free Jvm.Free.XT
open Jvm.Lib.Cold (StaticIs)
abbrev ST : String := "java/lang/String"
/-- every table word that New1's law asks, flat -/
abbrev words : List Jvm.Cond := [.code New1.yN New1.yB 2 none, .initialized ST, .methodLink ST 27 New4.yN, .instanceMethod New4.yN,
  .code New4.yN New4.yB 6 none, .fieldLink ST 38 ST "COMPACT_STRINGS" "Z", .laysFinal ST ST "value" "[B", .fieldLink ST 9 ST "value" "[B", .laysFinal ST ST "coder" "B", .fieldLink ST 15 ST "coder" "B",
  .methodLink ST 1 Lib.objectInit, .instanceMethod Lib.objectInit, .code Lib.objectInit ⟨#[0xb1]⟩ 1 none, .methodLink ST 177 Cmp3.yN, .static Cmp3.yN, .methodLink ST 47 CodL.yN, .static CodL.yN,
  .code Cmp3.yN Cmp3.yB 6 (some (.array .byte)), .initialized U16, .arrayClass .byte, .methodLink U16 115 Cmp5.yN, .static Cmp5.yN, .code Cmp5.yN Cmp5.yB 7 (some .int), .code CodL.yN CodL.yB 2 (some .byte)]
theorem tab_of {a : Array Value} {s : State} (h : ∀ w ∈ words, w.before a s = true) : New1.tab.before a s = true := by
  have h5 : Cmp5.tab.before a s = true := unparts (wk h (.code Cmp5.yN Cmp5.yB 7 (some .int))) (wks h (.initialized Cmp5.yN.cls :: Cmp5.site))
  have hc : CodL.tab.before a s = true := unparts (wk h (.code CodL.yN CodL.yB 2 (some .byte))) (wks h (.initialized CodL.yN.cls :: CodL.site))
  have q5 : ∀ w ∈ Cmp5.tab :: words, w.before a s = true := fun w hw => (List.mem_cons.mp hw).elim (fun e => e ▸ h5) (h w)
  have h3 : Cmp3.tab.before a s = true := unparts (wk q5 (.code Cmp3.yN Cmp3.yB 6 (some (.array .byte)))) (wks q5 (.initialized Cmp3.yN.cls :: Cmp3.site))
  have q3 : ∀ w ∈ Cmp3.tab :: CodL.tab :: words, w.before a s = true := fun w hw => (List.mem_cons.mp hw).elim (fun e => e ▸ h3) fun hw => (List.mem_cons.mp hw).elim (fun e => e ▸ hc) (h w)
  have h4 : New4.tab.before a s = true := unparts (wk q3 (.code New4.yN New4.yB 6 none)) (wks q3 (.initialized New4.yN.cls :: New4.site))
  have q4 : ∀ w ∈ New4.tab :: words, w.before a s = true := fun w hw => (List.mem_cons.mp hw).elim (fun e => e ▸ h4) (h w)
  exact unparts (wk q4 (.code New1.yN New1.yB 2 none)) (wks q4 (.initialized New1.yN.cls :: New1.site))
/-- the words ride from the start Z to the walk's own state -/
theorem moved {Z s : State} {a0 args : Array Value} (hZ : Z.Warmed39 s.vm) (hw : ∀ d ∈ words, d.before a0 Z = true) : ∀ d ∈ words, d.before args s = true := fun d hd => by
  have q := hw d hd
  have t : ∀ d ∈ words, d = .arrayClass .byte ∨ (d.onTables && d.keepsFace) = true := by decide +kernel
  rcases t d hd with rfl | t
  · exact RoadKit.mvA hZ q
  · exact RoadKit.mv hZ q t
/-- WHAT COMES BACK, over the tables of the start Z: h the heap at the call, h' behind it -/
def Q (Z : State) (x : Addr) (A : Cell) (h : Heap) (v : Option Value) (h' : Heap) (L : List Loc) : Prop := v = none ∧ (∀ y ∈ L, y.base = x) ∧ RoadKit.Keep h h' [x] ∧ h'.size = h.size + 1 ∧ RoadKit.Exa Z h' x ST ∧ RoadKit.Fld Z h' x ST "value" "[B" (.ref h.size) ∧ RoadKit.Fld Z h' x ST "coder" "B" (.int 0) ∧
  (∃ V : Cell, RoadKit.Arr Z h' h.size V .byte ∧ V.vm = .none ∧ Z.vm.findClass "[B" = some V.cls ∧ V.slots.size = A.slots.size ∧ ∀ j, j < A.slots.size → V.slots[j]? = some (.int (lo8 (cv A j)))) ∧
  ∀ (O n d : String) (w : Value), RoadKit.Fld Z h x O n d w → RoadKit.slotOf Z O n d ≠ RoadKit.slotOf Z ST "value" "[B" → RoadKit.slotOf Z O n d ≠ RoadKit.slotOf Z ST "coder" "B" → RoadKit.Fld Z h' x O n d w
/-- **new String(chars) AT A CALL, IN THE ROAD'S FORM**: for specialBack behind newO: x the fresh String, b the char[] with the cell A -/
theorem back {p : Program} {l : Launch} {e : Env} {R : Room} {s : State} {args : Array Value} {below : List Frame} {len W : Nat} {Z : State} {a0 : Array Value} {h : Heap} (hZ : Z.Warmed39 s.vm) (hw : ∀ d ∈ words, d.before a0 Z = true) {kI : Nat} (wi : (Jvm.Cond.instantiable ST kI).before a0 Z = true)
    {x b : Addr} {A : Cell} {z : Int32} {v0 c0 : Value} (E : RoadKit.Exa Z h x ST) (V : RoadKit.Fld Z h x ST "value" "[B" v0) (C : RoadKit.Fld Z h x ST "coder" "B" c0) (K : RoadKit.Arr Z h b A .char) (hty : Typed .char A) (S : RoadKit.Sta Z h ST "COMPACT_STRINGS" "Z" (.int z)) (hz : ¬ z = 0)
    (l0 : 0 < A.slots.size) (l2 : A.slots.size ≤ 536870912) (hp : ∀ i, i < A.slots.size → ¬ 255 < cv A i) (hfr : 4 ≤ R.frames) (hlo : W + 65 ≤ R.locals) :
    Back l R p e below s args New1.yN len W (fun P a => a = #[.ref x, .ref b] ∧ P.U.heap = h ∧ P.cells + 1 ≤ R.cells ∧ P.slots + A.slots.size ≤ R.slots)
      (fun P _ v B => ∃ L, Q Z x A h v B.U.heap L ∧ B.locs = P.locs ++ L ∧ B.cells = P.cells + 1 ∧ B.slots = P.slots + A.slots.size) := by
  intro m meth c P g ig mk a X hg hsize hdg hW hn hp'
  obtain ⟨rfl, rfl, r1, r2⟩ := hp'
  have al : Z.vm.Alike P.U.vm := hZ.alike.trans X.warmed.alike
  obtain ⟨D, cfV, kV, iV, fV, hD, gV, stV, knV, obV, asV, slV⟩ := id V
  obtain ⟨D', cfC, kC, iC, fC, hD', gC, stC, -, -, asC, slC⟩ := id C
  cases hD.symm.trans hD'
  obtain ⟨D2, kD, e1, e2, e3, e4, e5⟩ := id E
  cases hD.symm.trans e1
  obtain ⟨c2, k2, i1, i2, i3, -⟩ := Cond.instantiable_spec wi
  cases e2.symm.trans i1
  cases e3.symm.trans i2
  obtain ⟨kU, u1, u2⟩ := al.2.2 _ _ e3
  have hB : Blank ST x D P.U := ⟨hD, ⟨knV, fun q hq => by rw [hq] at obV; cases obV⟩, by rw [al.findClass]; exact e2, kU, u1, by rw [u2]; exact i3, by rw [u2]; exact e5 i3⟩
  have F1 : Found ST "value" "[B" fV P.U := ⟨SBG.found_only al ⟨cfV, kV, iV, gV⟩, stV⟩
  have F2 : Found ST "coder" "B" fC P.U := ⟨SBG.found_only al ⟨cfC, kC, iC, gC⟩, stC⟩
  have hA : Ch b A P.U := ⟨⟨K.1, State.isArrayOf_alike al K.2.1, K.2.2, by omega⟩, hty⟩
  have hS : StaticIs P.U ST "COMPACT_STRINGS" "Z" (.int z) := by
    obtain ⟨cfS, iS, kS, fS, st, cS, t1, t2, t3, t4, t5, t6, t7⟩ := S
    exact StaticIs.there (s := { Z with heap := P.U.heap }) ⟨cfS, iS, kS, fS, st, cS, t1, t2, t3, t4, t5, (fun q => by rw [q] at t6; cases t6), t7⟩ al rfl
  obtain ⟨v, B, X', ⟨⟨hv, E', V', q1, q2, q3, q4, q5, q6, q7, q8, q9, q10, q11⟩, hl, hc, hs⟩, st⟩ := New1.pays x D fV fC b A z (tab_of (moved hZ hw)) hfr hlo m meth c P g ig mk _ X hg hsize hdg hW hn ⟨r1, r2, rfl, hB, F1, F2, hA, hS, hz, l0, l2, hp⟩
  have al' : Z.vm.Alike B.U.vm := hZ.alike.trans X'.warmed.alike
  have hsz : E'.slots.size = D.slots.size := by
    obtain ⟨-, -, -, kB, w1, w2, w3⟩ := q1
    obtain ⟨kB', y1, y2⟩ := al'.2.2 _ _ e3
    rw [q2.2.1] at w1
    cases w1.symm.trans y1
    rw [w3, e5 i3, y2]
  refine ⟨v, B, X', ⟨_, ⟨hv, ?_, ⟨by omega, fun y cy hy hn' => q10 y cy (by simpa using hn') hy, fun y cy hy => ?_⟩, q11, ⟨E', _, q1.1, by rw [q2.2.1]; exact e2, by rw [q2.2.1]; exact e3, by rw [q2.1]; exact obV, fun _ => by rw [hsz]; exact e5 i3⟩,
    ⟨E', cfV, kV, iV, fV, q1.1, gV, stV, by rw [q2.1]; exact knV, by rw [q2.1]; exact obV, by rw [q2.2.1]; exact asV, q3⟩, ⟨E', cfC, kC, iC, fC, q1.1, gC, stC, by rw [q2.1]; exact knV, by rw [q2.1]; exact obV, by rw [q2.2.1]; exact asC, q4⟩,
    ⟨V', ⟨q5.1, State.isArrayOf_alike al'.symm q5.2.1, q5.2.2.1⟩, q6, by rw [← al'.findClass]; exact q7, q8, fun j hj => by have := q9 j hj; rwa [Nat.zero_add] at this⟩, fun O n d w F n1 n2 => ?_⟩, hl, hc, hs⟩, st⟩
  · intro y hy
    simp only [List.mem_cons, List.not_mem_nil, or_false] at hy
    rcases hy with rfl | rfl <;> rfl
  · by_cases q : y = x
    · subst q
      cases hD.symm.trans hy
      exact ⟨E', q1.1, q2.2.1, q2.1, hsz⟩
    · exact ⟨cy, q10 y cy q hy, rfl, rfl, rfl⟩
  · obtain ⟨D3, cf, k, i, f, g1, g2, g3, g4, g5, g6, g7⟩ := F
    cases hD.symm.trans g1
    simp only [RoadKit.slotOf, g2, gV, gC, Option.map_some, Option.getD_some] at n1 n2
    exact ⟨E', cf, k, i, f, q1.1, g2, g3, by rw [q2.1]; exact g4, by rw [q2.1]; exact g5, by rw [q2.2.1]; exact g6, by rw [q2.2.2 f.slot (by simp [n1, n2])]; exact g7⟩
end StrChars.Road
namespace StrChars.Road
open Jvm Sem ClassFile Op Lib Jvm.Stand Jvm.Free Jvm.Free.XT
/-- WHAT COMES BACK, the byte[] as a list of values -/
def QA (Z : State) (x : Addr) (zn : Int32) (cs : List Int32) (h : Heap) (v : Option Value) (h' : Heap) (L : List Loc) : Prop := v = none ∧ (∀ y ∈ L, y.base = x) ∧ RoadKit.Keep h h' [x] ∧ h'.size = h.size + 1 ∧ RoadKit.Exa Z h' x ST ∧ RoadKit.Fld Z h' x ST "value" "[B" (.ref h.size) ∧ RoadKit.Fld Z h' x ST "coder" "B" (.int 0) ∧
  (∃ kb, Z.vm.findClass "[B" = some kb ∧ RoadKit.Arv Z h' h.size kb .byte zn (cs.map fun c => .int (lo8 c)) (.int 0)) ∧
  ∀ (O n d : String) (w : Value), RoadKit.Fld Z h x O n d w → RoadKit.slotOf Z O n d ≠ RoadKit.slotOf Z ST "value" "[B" → RoadKit.slotOf Z O n d ≠ RoadKit.slotOf Z ST "coder" "B" → RoadKit.Fld Z h' x O n d w
/-- **new String(chars) AT A CALL, THE ARRAYS AS LISTS**: the char[] at b holds cs, not empty, no char above 255 -/
theorem backArv {p : Program} {l : Launch} {e : Env} {R : Room} {s : State} {args : Array Value} {below : List Frame} {len W : Nat} {Z : State} {a0 : Array Value} {h : Heap} (hZ : Z.Warmed39 s.vm) (hw : ∀ d ∈ words, d.before a0 Z = true) {kI : Nat} (wi : (Jvm.Cond.instantiable ST kI).before a0 Z = true)
    {x b : Addr} {k : ClassId} {zn z : Int32} {cs : List Int32} {dv v0 c0 : Value} (E : RoadKit.Exa Z h x ST) (V : RoadKit.Fld Z h x ST "value" "[B" v0) (C : RoadKit.Fld Z h x ST "coder" "B" c0) (K : RoadKit.Arv Z h b k .char zn (cs.map Value.int) dv) (S : RoadKit.Sta Z h ST "COMPACT_STRINGS" "Z" (.int z)) (hz : ¬ z = 0)
    (hlen : zn.toNatClampNeg = cs.length) (h0 : 0 < cs.length) (hbig : cs.length ≤ 536870912) (hall : ∀ c ∈ cs, ¬ 255 < c) (hfr : 4 ≤ R.frames) (hlo : W + 65 ≤ R.locals) :
    Back l R p e below s args New1.yN len W (fun P a => a = #[.ref x, .ref b] ∧ P.U.heap = h ∧ P.cells + 1 ≤ R.cells ∧ P.slots + cs.length ≤ R.slots)
      (fun P _ v B => ∃ L, QA Z x zn cs h v B.U.heap L ∧ B.locs = P.locs ++ L ∧ B.cells = P.cells + 1 ∧ B.slots = P.slots + cs.length) := by
  obtain ⟨A, K1, K2, K3, K4, K5, K6⟩ := K
  have e : A.slots.size = cs.length := K3.trans hlen
  have hat : ∀ (i : Nat) (hi : i < cs.length), A.slots[i]? = some (.int cs[i]) := fun i hi => by rw [K5 i (by omega)]; simp [List.getD_eq_getElem?_getD, hi]
  have hcv : ∀ (i : Nat) (hi : i < cs.length), cv A i = cs[i] := fun i hi => by unfold cv; rw [hat i hi]
  have hty : Typed .char A := fun i v hv => by
    have hi : i < A.slots.size := (Array.getElem?_eq_some_iff.mp hv).1
    have q := K5 i hi
    rw [hv] at q
    rw [Option.some.inj q]
    exact K6 i hi
  refine Back.mono (back hZ hw wi E V C K1 hty S hz (by omega) (by omega) (fun i hi => by rw [hcv i (by omega)]; exact hall _ (List.getElem_mem _)) hfr hlo) (fun P a hp => ⟨hp.1, hp.2.1, hp.2.2.1, by rw [e]; exact hp.2.2.2⟩) (fun P a v B hp hq => ?_)
  obtain ⟨L, ⟨q1, q2, q3, q4, q5, q6, q7, ⟨V', v1, v2, v3, v4, v5⟩, q9⟩, hl, hc, hs⟩ := hq
  refine ⟨L, ⟨q1, q2, q3, q4, q5, q6, q7, ⟨V'.cls, v3, V', v1, rfl, by rw [v4, e, hlen], K4, fun i hi => ?_, fun i hi => ?_⟩, q9⟩, hl, hc, by rw [hs, e]⟩
  · have hi' : i < cs.length := by omega
    rw [v5 i (by omega), hcv i hi']; simp [List.getD_eq_getElem?_getD, hi']
  · have hi' : i < cs.length := by omega
    simp only [List.getD_eq_getElem?_getD, List.getElem?_map, List.getElem?_eq_getElem hi', Option.map_some, Option.getD_some]
    exact fits_lo8 _
end StrChars.Road
namespace StrChars.Road
open Jvm Sem ClassFile Op Lib Jvm.Stand Jvm.Free Jvm.Free.XT
/-- WHAT COMES BACK, in the writer's own shape -/
def QV (Z : State) (x : Addr) (N : Int32) (bs : List Int32) (h : Heap) (n0 : Nat) (v : Option Value) (h' : Heap) (L : List Loc) : Prop := v = none ∧ RoadKit.Fr n0 L ∧ RoadKit.Keep h h' [x] ∧ RoadKit.Exa Z h' x ST ∧ RoadKit.Fld Z h' x ST "coder" "B" (.int 0) ∧
  ∃ (t : Addr) (kb : ClassId), n0 ≤ t ∧ h.size ≤ t ∧ ¬ t = x ∧ RoadKit.Fld Z h' x ST "value" "[B" (.ref t) ∧ RoadKit.Arv Z h' t kb .byte N (bs.map Value.int) (.int 0)
/-- **new String(chars) AT A CALL, FOR THE WRITER**: a char[] of n known ints, each 0 to 255 -/
theorem backV {p : Program} {l : Launch} {e : Env} {R : Room} {s : State} {args : Array Value} {below : List Frame} {len W : Nat} {Z : State} {a0 : Array Value} {h : Heap} (hZ : Z.Warmed39 s.vm) (hw : ∀ d ∈ words, d.before a0 Z = true) {kI : Nat} (wi : (Jvm.Cond.instantiable ST kI).before a0 Z = true)
    {x b : Addr} {kC : ClassId} {cs bs : List Int32} {d v0 c0 : Value} {z N : Int32} {n n0 : Nat} (hx0 : n0 ≤ x) (hh0 : n0 ≤ h.size) (E : RoadKit.Exa Z h x ST) (V : RoadKit.Fld Z h x ST "value" "[B" v0) (C : RoadKit.Fld Z h x ST "coder" "B" c0) (K : RoadKit.Arv Z h b kC .char N (cs.map Value.int) d) (S : RoadKit.Sta Z h ST "COMPACT_STRINGS" "Z" (.int z)) (hz : ¬ z = 0)
    (hn : cs.length = n) (hN : N = Int32.ofNat n) (l0 : 0 < n) (l2 : n ≤ 4000) (hp : ∀ c ∈ cs, ¬ c < 0 ∧ ¬ (255 : Int32) < c) (hb : bs = cs.map (fun c => c.toInt8.toInt32)) (hfr : 4 ≤ R.frames) (hlo : W + 65 ≤ R.locals) :
    Back l R p e below s args (⟨"java/lang/String", "<init>", "([C)V"⟩ : MethodName) len W (fun P a => a = #[.ref x, .ref b] ∧ P.U.heap = h ∧ P.cells + 1 ≤ R.cells ∧ P.slots + n ≤ R.slots)
      (fun P _ v B => ∃ L, QV Z x N bs h n0 v B.U.heap L ∧ B.locs = P.locs ++ L ∧ B.cells = P.cells + 1 ∧ B.slots = P.slots + n) := by
  subst hn hN hb
  refine Back.mono (backArv hZ hw wi E V C K S hz (n32 (by omega)) l0 (by omega) (fun c hc => (hp c hc).2) hfr hlo) (fun P a hp => hp) (fun P a v B hp hq => ?_)
  obtain ⟨L, ⟨q1, q2, q3, q4, q5, q6, q7, ⟨kb, v1, v2⟩, q9⟩, hl, hc, hs⟩ := hq
  exact ⟨L, ⟨q1, fun y hy => by rw [q2 y hy]; exact hx0, q3, q5, q7, h.size, kb, hh0, Nat.le_refl _, Nat.ne_of_gt E.lt, q6, by rw [List.map_map]; exact v2⟩, hl, hc, hs⟩
end StrChars.Road
namespace StrChars
open Jvm Sem ClassFile Op Lib Jvm.Stand Jvm.Free.XT Jvm.Free.ALB Jvm.Free.JM Jvm.Free
open Jvm.Lib.Cold (StaticIs)
def hi8 (x : Int32) : Int32 := lo8 (x >>> ((8 : Int32) &&& 31))
/-- what StringUTF16.getChar makes of two bytes -/
def pairCh (u v : Int32) : Int32 := (((u &&& 255) <<< ((0 : Int32) &&& 31)) ||| ((v &&& 255) <<< ((8 : Int32) &&& 31))).toUInt32.toUInt16.toUInt32.toInt32
theorem lo8_and (x : Int32) : (lo8 x &&& 255).toBitVec.toNat = x.toBitVec.toNat % 256 := by
  have h : (lo8 x).toBitVec = (x.toBitVec.signExtend 8).signExtend 32 := by rw [lo8, Int8.toBitVec_toInt32, Int32.toBitVec_toInt8]
  rw [Int32.toBitVec_and, BitVec.toNat_and, h]
  have e : ((x.toBitVec.signExtend 8).signExtend 32).toNat % 256 = x.toBitVec.toNat % 256 := by
    rw [BitVec.toNat_signExtend]
    have hlt := x.toBitVec.isLt
    simp only [BitVec.toNat_setWidth, BitVec.toNat_signExtend]
    split <;> split <;> omega
  rw [← e]
  exact Nat.and_two_pow_sub_one_eq_mod _ 8
theorem pair_says {c : Int32} (h0 : ¬ c < 0) (h1 : ¬ 65535 < c) : pairCh (lo8 c) (hi8 c) = c := by
  rw [Int32.lt_iff_toInt_lt] at h0 h1
  have e0 : (0 : Int32).toInt = 0 := rfl
  have e1 : (65535 : Int32).toInt = 65535 := rfl
  have hc : c.toInt = c.toBitVec.toNat := by
    have := c.toBitVec.isLt
    have e : c.toInt = c.toBitVec.toInt := rfl
    rw [e] at h0 h1
    rw [e]
    rw [BitVec.toInt_eq_toNat_cond] at h0 h1 ⊢
    split at h0 <;> split <;> omega
  have hn : c.toBitVec.toNat < 65536 := by omega
  have a1 := lo8_and c
  have a2 : (hi8 c &&& 255).toBitVec.toNat = c.toBitVec.toNat / 256 := by
    rw [hi8, lo8_and]
    have e : ((8 : Int32) &&& 31) = 8 := by decide
    rw [e, Int32.toBitVec_shiftRight]
    have e2 : ((8 : Int32).toBitVec.smod 32) = 8#32 := by decide
    rw [e2, BitVec.sshiftRight_eq', BitVec.toNat_sshiftRight_of_msb_false (by rw [BitVec.msb_eq_false_iff_two_mul_lt]; omega)]
    show c.toBitVec.toNat >>> 8 % 256 = _
    rw [Nat.shiftRight_eq_div_pow]
    omega
  unfold pairCh
  apply Int32.toBitVec_inj.mp
  apply BitVec.eq_of_toNat_eq
  have f0 : ((0 : Int32) &&& 31) = 0 := by decide
  have f8 : ((8 : Int32) &&& 31) = 8 := by decide
  rw [f0, f8]
  have g : (((lo8 c &&& 255) <<< (0 : Int32)) ||| ((hi8 c &&& 255) <<< (8 : Int32))).toBitVec.toNat = c.toBitVec.toNat := by
    rw [Int32.toBitVec_or, Int32.toBitVec_shiftLeft, Int32.toBitVec_shiftLeft]
    have s0 : ((0 : Int32).toBitVec.smod 32) = 0#32 := by decide
    have s8 : ((8 : Int32).toBitVec.smod 32) = 8#32 := by decide
    rw [s0, s8, BitVec.toNat_or]
    simp only [BitVec.shiftLeft_eq', BitVec.toNat_shiftLeft, a1, a2]
    show (c.toBitVec.toNat % 256) <<< 0 % 2 ^ 32 ||| (c.toBitVec.toNat / 256) <<< 8 % 2 ^ 32 = _
    rw [Nat.shiftLeft_zero, Nat.mod_eq_of_lt (show c.toBitVec.toNat % 256 < 2 ^ 32 by omega), Nat.mod_eq_of_lt (show (c.toBitVec.toNat / 256) <<< 8 < 2 ^ 32 by rw [Nat.shiftLeft_eq]; omega), Nat.or_comm, ← Nat.shiftLeft_add_eq_or_of_lt (by omega), Nat.shiftLeft_eq]
    omega
  show BitVec.toNat (((((lo8 c &&& 255) <<< (0 : Int32)) ||| ((hi8 c &&& 255) <<< (8 : Int32))).toBitVec.setWidth 16).setWidth 32) = _
  rw [BitVec.toNat_setWidth, BitVec.toNat_setWidth, g]
  omega
end StrChars
namespace StrChars
open Jvm Sem ClassFile Op Lib Jvm.Stand Jvm.Free.XT Jvm.Free.ALB Jvm.Free.JM Jvm.Free
open Jvm.Lib.Cold (StaticIs)
/-- the array's cell V codes the n chars f 0 .. f (n - 1) by the coder cd, as the JDK does: coder 1 just where some char is above 255 -/
def Cod (cd : Int32) (n : Nat) (f : Nat → Int32) (V : Cell) : Prop := (cd = 0 ∧ V.slots.size = n ∧ ∀ j, j < n → V.slots[j]? = some (.int (lo8 (f j))) ∧ ¬ 255 < f j) ∨ (cd = 1 ∧ V.slots.size = 2 * n ∧ (∀ j, j < n → V.slots[2 * j]? = some (.int (lo8 (f j))) ∧ V.slots[2 * j + 1]? = some (.int (hi8 (f j)))) ∧ ∃ j, j < n ∧ 255 < f j)
/-- **x is a String of the n chars f 0 .. f (n - 1)**, Latin-1 or UTF-16; its array at t has the cell V -/
def Txt (x t : Addr) (V : Cell) (cd : Int32) (n : Nat) (f : Nat → Int32) (U : State) : Prop := Exact "java/lang/String" x U ∧ Has x "java/lang/String" "value" "[B" (.ref t) U ∧ Has x "java/lang/String" "coder" "B" (.int cd) U ∧ XT.Arr .byte t V U ∧ Cod cd n f V ∧ ∀ j, j < n → ¬ f j < 0 ∧ ¬ 65535 < f j
theorem Txt.mv {x t : Addr} {V : Cell} {cd : Int32} {n : Nat} {f : Nat → Int32} {U U' : State} (h : Txt x t V cd n f U) (hal : U.vm.Alike U'.vm) (hh : U'.heap = U.heap) : Txt x t V cd n f U' := ⟨h.1.mv hal hh, h.2.1.mv hal hh, h.2.2.1.mv hal hh, h.2.2.2.1.mv hal hh, h.2.2.2.2⟩
end StrChars
namespace StrChars.Road
open Jvm Sem ClassFile Op Lib Jvm.Stand Jvm.Free Jvm.Free.XT
open Jvm.Lib.Cold (StaticIs)
theorem consq {a : Array Value} {s : State} {c : Jvm.Cond} {L : List Jvm.Cond} (h0 : c.before a s = true) (h : ∀ w ∈ L, w.before a s = true) : ∀ w ∈ c :: L, w.before a s = true := fun w hw => (List.mem_cons.mp hw).elim (fun e => e ▸ h0) (h w)
/-- the bytes of the chars cs, low before high -/
def wideBytes : List Int32 → List Value
  | [] => []
  | c :: cs => .int (lo8 c) :: .int (hi8 c) :: wideBytes cs
theorem wide_lo (d : Value) : ∀ (cs : List Int32) (j : Nat), j < cs.length → (wideBytes cs).getD (2 * j) d = .int (lo8 (cs.getD j 0))
  | [], j, h => absurd h (Nat.not_lt_zero j)
  | c :: cs, 0, _ => rfl
  | c :: cs, j + 1, h => by
    have q := wide_lo d cs j (by simpa using h)
    rw [show 2 * (j + 1) = 2 * j + 1 + 1 from by omega]
    simpa [wideBytes] using q
theorem wide_hi (d : Value) : ∀ (cs : List Int32) (j : Nat), j < cs.length → (wideBytes cs).getD (2 * j + 1) d = .int (hi8 (cs.getD j 0))
  | [], j, h => absurd h (Nat.not_lt_zero j)
  | c :: cs, 0, _ => rfl
  | c :: cs, j + 1, h => by
    have q := wide_hi d cs j (by simpa using h)
    rw [show 2 * (j + 1) + 1 = 2 * j + 1 + 1 + 1 from by omega]
    simpa [wideBytes] using q
theorem low_at (d : Value) (cs : List Int32) (j : Nat) (h : j < cs.length) : (cs.map fun c => Value.int (lo8 c)).getD j d = .int (lo8 (cs.getD j 0)) := by
  simp [List.getD_eq_getElem?_getD, h]
/-- an array of N2 bytes vs codes the chars cs by the coder cd -/
def CodA (cs : List Int32) (cd N2 : Int32) (vs : List Value) : Prop := (cd = 0 ∧ N2 = Int32.ofNat cs.length ∧ vs = (cs.map fun c => Value.int (lo8 c)) ∧ ∀ c ∈ cs, ¬ 255 < c) ∨ (cd = 1 ∧ N2 = Int32.ofNat (2 * cs.length) ∧ vs = wideBytes cs ∧ ∃ c ∈ cs, 255 < c)
theorem CodA.cod {cs : List Int32} {cd N2 : Int32} {vs : List Value} {V : Cell} (h : CodA cs cd N2 vs) (hn : 2 * cs.length < 2 ^ 31) (hs : V.slots.size = N2.toNatClampNeg) (hv : RoadKit.Has V vs (.int 0)) : Cod cd cs.length (fun j => cs.getD j 0) V := by
  rcases h with ⟨rfl, rfl, rfl, h⟩ | ⟨rfl, rfl, rfl, c, hc, hw⟩
  · rw [n32 (by omega)] at hs
    exact Or.inl ⟨rfl, hs, fun j hj => ⟨by rw [hv j (by omega), low_at _ _ _ hj], by
      have e : cs.getD j 0 = cs[j] := by simp [List.getD_eq_getElem?_getD, hj]
      show ¬ 255 < cs.getD j 0
      rw [e]; exact h _ (List.getElem_mem _)⟩⟩
  · rw [n32 (by omega)] at hs
    obtain ⟨j, hj, rfl⟩ := List.getElem_of_mem hc
    exact Or.inr ⟨rfl, hs, fun j hj => ⟨by rw [hv _ (by omega), wide_lo _ _ _ hj], by rw [hv _ (by omega), wide_hi _ _ _ hj]⟩, j, hj, by
      have e : cs.getD j 0 = cs[j] := by simp [List.getD_eq_getElem?_getD, hj]
      show 255 < cs.getD j 0
      rw [e]; exact hw⟩
/-- an object of exactly java/lang/String, its two fields found: as the laws ask it -/
theorem strObj {Z U : State} {a0 : Array Value} {kI : Nat} (wi : (Jvm.Cond.instantiable ST kI).before a0 Z = true) (al : Z.vm.Alike U.vm) {x : Addr} {v0 c0 : Value} (E : RoadKit.Exa Z U.heap x ST) (V : RoadKit.Fld Z U.heap x ST "value" "[B" v0) (C : RoadKit.Fld Z U.heap x ST "coder" "B" c0) :
    ∃ (D : Cell) (fV fC : Field), Blank ST x D U ∧ Found ST "value" "[B" fV U ∧ Found ST "coder" "B" fC U ∧ D.slots[fV.slot]? = some v0 ∧ D.slots[fC.slot]? = some c0 ∧ RoadKit.slotOf Z ST "value" "[B" = fV.slot ∧ RoadKit.slotOf Z ST "coder" "B" = fC.slot := by
  obtain ⟨D, cfV, kV, iV, fV, hD, gV, stV, knV, obV, asV, slV⟩ := V
  obtain ⟨D', cfC, kC, iC, fC, hD', gC, stC, -, -, asC, slC⟩ := C
  cases hD.symm.trans hD'
  obtain ⟨D2, kD, e1, e2, e3, e4, e5⟩ := E
  cases hD.symm.trans e1
  obtain ⟨c2, k2, i1, i2, i3, -⟩ := Cond.instantiable_spec wi
  cases e2.symm.trans i1
  cases e3.symm.trans i2
  obtain ⟨kU, u1, u2⟩ := al.2.2 _ _ e3
  exact ⟨D, fV, fC, ⟨hD, ⟨knV, fun q hq => by rw [hq] at obV; cases obV⟩, by rw [al.findClass]; exact e2, kU, u1, by rw [u2]; exact i3, by rw [u2]; exact e5 i3⟩, ⟨SBG.found_only al ⟨cfV, kV, iV, gV⟩, stV⟩, ⟨SBG.found_only al ⟨cfC, kC, iC, gC⟩, stC⟩, slV, slC, by simp [RoadKit.slotOf, gV], by simp [RoadKit.slotOf, gC]⟩
theorem sta_is {Z U : State} (al : Z.vm.Alike U.vm) {C n d : String} {v : Value} (S : RoadKit.Sta Z U.heap C n d v) : StaticIs U C n d v := by
  obtain ⟨cfS, iS, kS, fS, st, cS, t1, t2, t3, t4, t5, t6, t7⟩ := S
  exact StaticIs.there (s := { Z with heap := U.heap }) ⟨cfS, iS, kS, fS, st, cS, t1, t2, t3, t4, t5, (fun q => by rw [q] at t6; cases t6), t7⟩ al rfl
end StrChars.Road
namespace StrChars
open Jvm Sem ClassFile Op Lib Jvm.Stand Jvm.Free.XT Jvm.Free.ALB Jvm.Free.JM Jvm.Free
open Jvm.Lib.Cold (StaticIs)
/-- what place i of a byte[]'s cell holds -/
def yv (A : Cell) (i : Nat) : Int32 := match A.slots[i]? with | some (.int x) => x | _ => 0
theorem yv_get {a : Addr} {A : Cell} {U : State} (h : XT.Arr .byte a A U) (ht : Typed .byte A) {i : Nat} (hi : i < A.slots.size) : A.slots[i]? = some (.int (yv A i)) := by
  have e := Array.getElem?_eq_getElem hi
  have f := ht i _ e
  unfold yv; rw [e]
  generalize A.slots[i] = v at f
  cases v <;> simp [fits] at f ⊢
/-- the two arrays are equal, place for place -/
def EqC (A B : Cell) : Prop := A.slots.size = B.slots.size ∧ ∀ i, i < A.slots.size → yv A i = yv B i
/-- a boolean that says whether p -/
def Says01 (q : Prop) (r : Option Value) (s u : State) : Prop := ∃ v : Int32, r = some (.int v) ∧ u.heap = s.heap ∧ ((v = 1 ∧ q) ∨ (v = 0 ∧ ¬ q))
theorem Says01.mv {q : Prop} : ∀ r (U U' V V' : State), U'.heap = U.heap → V.vm.Alike V'.vm → V'.heap = V.heap → Says01 q r U V → Says01 q r U' V' :=
  fun r U U' V V' h1 _ h2 ⟨v, a, b, c⟩ => ⟨v, a, by rw [h1, h2]; exact b, c⟩
namespace LEq
def yN : MethodName := ⟨"java/lang/StringLatin1", "equals", "([B[B)Z"⟩
abbrev yB : ByteArray := jdk_43_method_13_code
theorem d0 : decode yB 0 = .ok (.aload_n 0, 1) := by decide +kernel
theorem d1 : decode yB 1 = .ok (.arraylength, 1) := by decide +kernel
theorem d2 : decode yB 2 = .ok (.aload_n 1, 1) := by decide +kernel
theorem d3 : decode yB 3 = .ok (.arraylength, 1) := by decide +kernel
theorem d4 : decode yB 4 = .ok (.if_icmp (.ne) 30, 3) := by decide +kernel
theorem d7 : decode yB 7 = .ok (.iconst 0, 1) := by decide +kernel
theorem d8 : decode yB 8 = .ok (.istore_n 2, 1) := by decide +kernel
theorem d9 : decode yB 9 = .ok (.iload_n 2, 1) := by decide +kernel
theorem d10 : decode yB 10 = .ok (.aload_n 0, 1) := by decide +kernel
theorem d11 : decode yB 11 = .ok (.arraylength, 1) := by decide +kernel
theorem d12 : decode yB 12 = .ok (.if_icmp (.ge) 20, 3) := by decide +kernel
theorem d15 : decode yB 15 = .ok (.aload_n 0, 1) := by decide +kernel
theorem d16 : decode yB 16 = .ok (.iload_n 2, 1) := by decide +kernel
theorem d17 : decode yB 17 = .ok (.baload, 1) := by decide +kernel
theorem d18 : decode yB 18 = .ok (.aload_n 1, 1) := by decide +kernel
theorem d19 : decode yB 19 = .ok (.iload_n 2, 1) := by decide +kernel
theorem d20 : decode yB 20 = .ok (.baload, 1) := by decide +kernel
theorem d21 : decode yB 21 = .ok (.if_icmp (.eq) 5, 3) := by decide +kernel
theorem d24 : decode yB 24 = .ok (.iconst 0, 1) := by decide +kernel
theorem d25 : decode yB 25 = .ok (.ireturn, 1) := by decide +kernel
theorem d26 : decode yB 26 = .ok (.iinc 2 1, 3) := by decide +kernel
theorem d29 : decode yB 29 = .ok (.goto (-20), 3) := by decide +kernel
theorem d32 : decode yB 32 = .ok (.iconst 1, 1) := by decide +kernel
theorem d33 : decode yB 33 = .ok (.ireturn, 1) := by decide +kernel
theorem d34 : decode yB 34 = .ok (.iconst 0, 1) := by decide +kernel
theorem d35 : decode yB 35 = .ok (.ireturn, 1) := by decide +kernel
def site : List Cond := []
def tab : Cond := tabOf yN yB 3 (some .boolean) site
def P (a : Addr) (A : Cell) (b : Addr) (B : Cell) (args : Array Value) (s : State) : Prop := args = #[.ref a, .ref b] ∧ XT.Arr .byte a A s ∧ Typed .byte A ∧ XT.Arr .byte b B s ∧ Typed .byte B
/-- whether two byte[] are equal, place for place -/
theorem law (l : Launch) (a : Addr) (A : Cell) (b : Addr) (B : Cell) : Law l yN 2 2 0 0 yB 3 (some .boolean) site (P a A b B) (Says01 (EqC A B)) [] 0 0 := by
  refine Law.of_walk (plainFor_of_name (by decide +kernel)) (by decide +kernel) (by decide +kernel) (by decide) (fun _ _ h => by rw [h.1]; rfl) (fun _ U U' hal hh h => ⟨h.1, h.2.1.mv hal hh, h.2.2.1, h.2.2.2.1.mv hal hh, h.2.2.2.2⟩) (fun r U U' V V' h1 hal h2 h => Says01.mv r U U' V V' h1 hal h2 h) ?_
  intro p e s m args below meth c s₁ X0 hexec hbytes hml hret hlk hnm hown hh0 W hP
  obtain ⟨rfl, hA, tA, hB, tB⟩ := hP
  have a31 := hA.2.2.2
  have b31 := hB.2.2.2
  have hA0 := hA.mv X0.warmed.alike hh0
  have hB0 := hB.mv X0.warmed.alike hh0
  have c1 : Steps p.tables e below (s₁.setTop (entryFrame m #[.ref a, .ref b] 3)) (s₁.setTop (mkF m 0 #[.val (.ref a), .val (.ref b), .unset] [])) := entry rfl
  have c2 : Steps p.tables e below (s₁.setTop (entryFrame m #[.ref a, .ref b] 3)) (s₁.setTop (mkF m 4 #[.val (.ref a), .val (.ref b), .unset] [.int (Int32.ofNat B.slots.size), .int (Int32.ofNat A.slots.size)])) := c1.trans (by
    refine XS.aloadN X0.here hexec rfl (hb hbytes d0) rfl rfl ?_
    refine X0.alen hexec hA0 rfl rfl (hb hbytes d1) ?_
    refine XS.aloadN X0.here hexec rfl (hb hbytes d2) rfl rfl ?_
    refine X0.alen hexec hB0 rfl rfl (hb hbytes d3) ?_
    exact Steps.refl _)
  by_cases hs : A.slots.size = B.slots.size
  · have c3 : Steps p.tables e below (s₁.setTop (entryFrame m #[.ref a, .ref b] 3)) (s₁.setTop (mkF m 9 #[.val (.ref a), .val (.ref b), .val (.int 0)] [])) := c2.trans (by
      refine XS.icmpNo X0.here hexec rfl (hb hbytes d4) rfl (ii_ne_f (by rw [hs])) ?_
      refine iconstV X0.here hexec rfl 0 (hb hbytes d7) (by decide) ?_
      refine XS.istoreN X0.here hexec rfl (hb hbytes d8) rfl rfl ?_
      exact Steps.refl _)
    have loop : ∀ (r i : Nat), i + r = A.slots.size → (∀ j, j < i → yv A j = yv B j) → Steps p.tables e below (s₁.setTop (entryFrame m #[.ref a, .ref b] 3)) (s₁.setTop (mkF m 9 #[.val (.ref a), .val (.ref b), .val (.int (Int32.ofNat i))] [])) → ∃ (pc : Nat) (Ls : Array Slot) (v : Int32), (pc = 25 ∨ pc = 33) ∧ ((v = 1 ∧ EqC A B) ∨ (v = 0 ∧ ¬ EqC A B)) ∧ Steps p.tables e below (s₁.setTop (entryFrame m #[.ref a, .ref b] 3)) (s₁.setTop (mkF m pc Ls [.int v])) := by
      intro r
      induction r with
      | zero =>
        intro i hi he cl
        exact ⟨33, _, 1, Or.inr rfl, Or.inl ⟨rfl, hs, fun j hj => he j (by omega)⟩, cl.trans (by
          refine XS.iloadN X0.here hexec rfl (hb hbytes d9) rfl ?_
          refine XS.aloadN X0.here hexec rfl (hb hbytes d10) rfl rfl ?_
          refine X0.alen hexec hA0 rfl rfl (hb hbytes d11) ?_
          refine XS.icmpYes X0.here hexec rfl (pc0 := 12) rfl (hb hbytes d12) rfl (ii_ge_t (nlt32 (by omega) (by omega))) (by decide) rfl ?_
          refine iconstV X0.here hexec rfl 1 (hb hbytes d32) (by decide) ?_
          exact Steps.refl _)⟩
      | succ r ih =>
        intro i hi he cl
        have c4 : Steps p.tables e below (s₁.setTop (entryFrame m #[.ref a, .ref b] 3)) (s₁.setTop (mkF m 21 #[.val (.ref a), .val (.ref b), .val (.int (Int32.ofNat i))] [.int (yv B i), .int (yv A i)])) := cl.trans (by
          refine XS.iloadN X0.here hexec rfl (hb hbytes d9) rfl ?_
          refine XS.aloadN X0.here hexec rfl (hb hbytes d10) rfl rfl ?_
          refine X0.alen hexec hA0 rfl rfl (hb hbytes d11) ?_
          refine XS.icmpNo X0.here hexec rfl (hb hbytes d12) rfl (ii_ge_f (lt32 (by omega) (by omega))) ?_
          refine XS.aloadN X0.here hexec rfl (hb hbytes d15) rfl rfl ?_
          refine XS.iloadN X0.here hexec rfl (hb hbytes d16) rfl ?_
          refine X0.aget hexec hA0 rfl (yv_get hA tA (i := i) (by omega)) rfl rfl (hb hbytes d17) ?_
          refine XS.aloadN X0.here hexec rfl (hb hbytes d18) rfl rfl ?_
          refine XS.iloadN X0.here hexec rfl (hb hbytes d19) rfl ?_
          refine X0.aget hexec hB0 rfl (yv_get hB tB (i := i) (by omega)) rfl rfl (hb hbytes d20) ?_
          exact Steps.refl _)
        by_cases hv : yv A i = yv B i
        · have c5 : Steps p.tables e below (s₁.setTop (entryFrame m #[.ref a, .ref b] 3)) (s₁.setTop (mkF m 9 #[.val (.ref a), .val (.ref b), .val (.int (Int32.ofNat i + 1))] [])) := c4.trans (by
            refine XS.icmpYes X0.here hexec rfl (pc0 := 21) rfl (hb hbytes d21) rfl (ii_eq_t hv) (by decide) rfl ?_
            refine iincV X0.here hexec rfl 1 (hb hbytes d26) (by decide) rfl rfl ?_
            refine XS.goto X0.here hexec rfl (pc0 := 29) rfl (hb hbytes d29) (by decide) rfl ?_
            exact Steps.refl _)
          rw [succ32] at c5
          exact ih (i + 1) (by omega) (fun j hj => by
            by_cases e : j = i
            · rw [e]; exact hv
            · exact he j (by omega)) c5
        · exact ⟨25, _, 0, Or.inl rfl, Or.inr ⟨rfl, fun q => hv (q.2 i (by omega))⟩, c4.trans (by
            refine XS.icmpNo X0.here hexec rfl (hb hbytes d21) rfl (ii_eq_f hv) ?_
            refine iconstV X0.here hexec rfl 0 (hb hbytes d24) (by decide) ?_
            exact Steps.refl _)⟩
    obtain ⟨pc, Ls, v, hpc, hv, cz⟩ := loop A.slots.size 0 (by omega) (fun j hj => absurd hj (Nat.not_lt_zero j)) c3
    have nv : narrow .boolean (.int v) = .int v := by rcases hv with ⟨rfl, -⟩ | ⟨rfl, -⟩ <;> rfl
    rcases hpc with rfl | rfl
    · exact ⟨s₁, some (.int v), _, _, _, X0, rfl, rfl, rfl, (fun h => by cases h), ⟨v, rfl, hh0, hv⟩, fun fs hl => cz.trans (X0.ireturnOut hexec hret nv (Or.inr (Or.inl rfl)) (hb hbytes d25) hl)⟩
    · exact ⟨s₁, some (.int v), _, _, _, X0, rfl, rfl, rfl, (fun h => by cases h), ⟨v, rfl, hh0, hv⟩, fun fs hl => cz.trans (X0.ireturnOut hexec hret nv (Or.inr (Or.inl rfl)) (hb hbytes d33) hl)⟩
  · have c3 : Steps p.tables e below (s₁.setTop (entryFrame m #[.ref a, .ref b] 3)) (s₁.setTop (mkF m 35 #[.val (.ref a), .val (.ref b), .unset] [.int 0])) := c2.trans (by
      refine XS.icmpYes X0.here hexec rfl (pc0 := 4) rfl (hb hbytes d4) rfl (ii_ne_t (ne32 a31 b31 hs)) (by decide) rfl ?_
      refine iconstV X0.here hexec rfl 0 (hb hbytes d34) (by decide) ?_
      exact Steps.refl _)
    exact ⟨s₁, some (.int 0), _, _, _, X0, rfl, rfl, rfl, (fun h => by cases h), ⟨0, rfl, hh0, Or.inr ⟨rfl, fun q => hs q.1⟩⟩, fun fs hl => c3.trans (X0.ireturnOut hexec hret rfl (Or.inr (Or.inl rfl)) (hb hbytes d35) hl)⟩
end LEq
theorem Cod.ty {cd : Int32} {n : Nat} {f : Nat → Int32} {V : Cell} (h : Cod cd n f V) : Typed .byte V := fun i v hv => by
  have hi : i < V.slots.size := (Array.getElem?_eq_some_iff.mp hv).1
  rcases h with ⟨-, k1, k2⟩ | ⟨-, k1, k2, -⟩
  · rw [(k2 i (by omega)).1] at hv; cases hv; exact fits_lo8 _
  · rcases Nat.mod_two_eq_zero_or_one i with e | e
    · obtain ⟨j, rfl⟩ : ∃ j, i = 2 * j := ⟨i / 2, by omega⟩
      rw [(k2 j (by omega)).1] at hv; cases hv; exact fits_lo8 _
    · obtain ⟨j, rfl⟩ : ∃ j, i = 2 * j + 1 := ⟨i / 2, by omega⟩
      rw [(k2 j (by omega)).2] at hv; cases hv; exact fits_lo8 _
/-- the same text -/
def SameT (n : Nat) (f : Nat → Int32) (k : Nat) (g : Nat → Int32) : Prop := n = k ∧ ∀ j, j < n → f j = g j
theorem lo8_inj {x y : Int32} (h0 : ¬ x < 0) (h1 : ¬ 255 < x) (k0 : ¬ y < 0) (k1 : ¬ 255 < y) (h : lo8 x = lo8 y) : x = y := by
  rw [← lo8_mask h0 h1, ← lo8_mask k0 k1, h]
/-- arrays coded by one coder are equal just where the texts are -/
theorem Cod.eqv {cd : Int32} {n k : Nat} {f g : Nat → Int32} {V V' : Cell} (h : Cod cd n f V) (h' : Cod cd k g V') (hf : ∀ j, j < n → ¬ f j < 0 ∧ ¬ 65535 < f j) (hg : ∀ j, j < k → ¬ g j < 0 ∧ ¬ 65535 < g j) : EqC V V' ↔ SameT n f k g := by
  have yvv : ∀ {W : Cell} {i : Nat} {x : Int32}, W.slots[i]? = some (.int x) → yv W i = x := fun q => by unfold yv; rw [q]
  rcases h with ⟨rfl, k1, k2⟩ | ⟨rfl, k1, k2, -⟩
  · rcases h' with ⟨-, m1, m2⟩ | ⟨e, -⟩
    · constructor
      · rintro ⟨e1, e2⟩
        refine ⟨by omega, fun j hj => ?_⟩
        have q := e2 j (by omega)
        rw [yvv (k2 j hj).1, yvv (m2 j (by omega)).1] at q
        exact lo8_inj (hf j hj).1 (k2 j hj).2 (hg j (by omega)).1 (m2 j (by omega)).2 q
      · rintro ⟨rfl, e2⟩
        refine ⟨by omega, fun j hj => ?_⟩
        rw [yvv (k2 j (by omega)).1, yvv (m2 j (by omega)).1, e2 j (by omega)]
    · exact absurd e (by decide)
  · rcases h' with ⟨e, -⟩ | ⟨-, m1, m2, -⟩
    · exact absurd e (by decide)
    · constructor
      · rintro ⟨e1, e2⟩
        refine ⟨by omega, fun j hj => ?_⟩
        have q1 := e2 (2 * j) (by omega)
        have q2 := e2 (2 * j + 1) (by omega)
        rw [yvv (k2 j hj).1, yvv (m2 j (by omega)).1] at q1
        rw [yvv (k2 j hj).2, yvv (m2 j (by omega)).2] at q2
        rw [← pair_says (hf j hj).1 (hf j hj).2, ← pair_says (hg j (by omega)).1 (hg j (by omega)).2, q1, q2]
      · rintro ⟨rfl, e2⟩
        refine ⟨by omega, fun i hi => ?_⟩
        rcases Nat.mod_two_eq_zero_or_one i with e | e
        · obtain ⟨j, rfl⟩ : ∃ j, i = 2 * j := ⟨i / 2, by omega⟩
          rw [yvv (k2 j (by omega)).1, yvv (m2 j (by omega)).1, e2 j (by omega)]
        · obtain ⟨j, rfl⟩ : ∃ j, i = 2 * j + 1 := ⟨i / 2, by omega⟩
          rw [yvv (k2 j (by omega)).2, yvv (m2 j (by omega)).2, e2 j (by omega)]
/-- two codings differ: so do the texts -/
theorem Cod.dif {cd cd' : Int32} {n k : Nat} {f g : Nat → Int32} {V V' : Cell} (h : Cod cd n f V) (h' : Cod cd' k g V') (hne : ¬ cd = cd') : ¬ SameT n f k g := by
  rintro ⟨rfl, e⟩
  rcases h with ⟨rfl, -, k2⟩ | ⟨rfl, -, -, j, hj, hw⟩
  · rcases h' with ⟨rfl, -⟩ | ⟨-, -, -, j, hj, hw⟩
    · exact hne rfl
    · exact (k2 j hj).2 (by rw [e j hj]; exact hw)
  · rcases h' with ⟨-, -, m2⟩ | ⟨rfl, -⟩
    · exact (m2 j hj).2 (by rw [← e j hj]; exact hw)
    · exact hne rfl
/-- an object of exactly C is an instance of C -/
theorem cinst {p : Program} {l : Launch} {e : Env} {R : Room} {s : State} {m : MethodId} {args : Array Value} {below : List Frame} {meth : Method} {c : Code} {T : State} {locs : List Loc} {cells slots : Nat} (X : Stand p l e R s m args below meth c T locs cells slots) (hexec : p.tables.exec = Jvm.exec) {own C : String} {index : Nat} (hown : s.vm.findClass own = some m.cls) (hlink : (Cond.classLink own index C).before args s = true) {a : Addr} (hE : Exact C a T)
    {g : JFrame} (hg : g.method = m) {rest : List Value} (hstack : g.stack = .ref a :: rest) (hdg : decode c.code g.pc = .ok (.instanceof index, 3)) :
    ∃ T', Stand p l e R s m args below meth c T' locs cells slots ∧ T'.heap = T.heap ∧ ∀ target, Steps p.tables e below (T'.setTop { g with pc := g.pc + 3, stack := .int 1 :: rest }) target → Steps p.tables e below (T.setTop g) target := by
  obtain ⟨cB, h1, D, h2, h3, h4⟩ := hE
  have h1' : s.vm.findClass C = some cB := by rw [← X.warmed.alike.findClass]; exact h1
  obtain ⟨vm', X', st⟩ := X.instanceofYes hexec hown hlink h2 h4 h1' (by rw [h3]; exact Jvm.Free.SB.assignable_self _ _) hg hstack hdg
  exact ⟨_, X', rfl, st⟩
theorem cself {p : Program} {l : Launch} {e : Env} {R : Room} {s : State} {m : MethodId} {args : Array Value} {below : List Frame} {meth : Method} {c : Code} {T : State} {locs : List Loc} {cells slots : Nat} (X : Stand p l e R s m args below meth c T locs cells slots) (hexec : p.tables.exec = Jvm.exec) {own C : String} {index : Nat} (hown : s.vm.findClass own = some m.cls) (hlink : (Cond.classLink own index C).before args s = true) {a : Addr} (hE : Exact C a T)
    {g : JFrame} (hg : g.method = m) {rest : List Value} (hstack : g.stack = .ref a :: rest) (hdg : decode c.code g.pc = .ok (.checkcast index, 3)) :
    ∃ T', Stand p l e R s m args below meth c T' locs cells slots ∧ T'.heap = T.heap ∧ ∀ target, Steps p.tables e below (T'.setTop { g with pc := g.pc + 3, stack := .ref a :: rest }) target → Steps p.tables e below (T.setTop g) target := by
  obtain ⟨cB, h1, D, h2, h3, h4⟩ := hE
  have h1' : s.vm.findClass C = some cB := by rw [← X.warmed.alike.findClass]; exact h1
  obtain ⟨vm', X', st⟩ := X.checkcastYes hexec hown hlink h2 h4 h1' (by rw [h3]; exact Jvm.Free.SB.assignable_self _ _) hg hstack hdg
  exact ⟨_, X', rfl, fun t h => st t (by rw [← hstack] at h; exact h)⟩
namespace SEq
def yN : MethodName := ⟨"java/lang/String", "equals", "(Ljava/lang/Object;)Z"⟩
abbrev yB : ByteArray := jdk_42_method_66_code
theorem d0 : decode yB 0 = .ok (.aload_n 0, 1) := by decide +kernel
theorem d1 : decode yB 1 = .ok (.aload_n 1, 1) := by decide +kernel
theorem d2 : decode yB 2 = .ok (.if_acmp (.ne) 5, 3) := by decide +kernel
theorem d5 : decode yB 5 = .ok (.iconst 1, 1) := by decide +kernel
theorem d6 : decode yB 6 = .ok (.ireturn, 1) := by decide +kernel
theorem d7 : decode yB 7 = .ok (.aload_n 1, 1) := by decide +kernel
theorem d8 : decode yB 8 = .ok (.instanceof 10, 3) := by decide +kernel
theorem d11 : decode yB 11 = .ok (.ifCond (.eq) 43, 3) := by decide +kernel
theorem d14 : decode yB 14 = .ok (.aload_n 1, 1) := by decide +kernel
theorem d15 : decode yB 15 = .ok (.checkcast 10, 3) := by decide +kernel
theorem d18 : decode yB 18 = .ok (.astore_n 2, 1) := by decide +kernel
theorem d19 : decode yB 19 = .ok (.getstatic 38, 3) := by decide +kernel
theorem d22 : decode yB 22 = .ok (.ifCond (.eq) 14, 3) := by decide +kernel
theorem d25 : decode yB 25 = .ok (.aload_n 0, 1) := by decide +kernel
theorem d26 : decode yB 26 = .ok (.getfield 15, 3) := by decide +kernel
theorem d29 : decode yB 29 = .ok (.aload_n 2, 1) := by decide +kernel
theorem d30 : decode yB 30 = .ok (.getfield 15, 3) := by decide +kernel
theorem d33 : decode yB 33 = .ok (.if_icmp (.ne) 21, 3) := by decide +kernel
theorem d36 : decode yB 36 = .ok (.aload_n 0, 1) := by decide +kernel
theorem d37 : decode yB 37 = .ok (.getfield 9, 3) := by decide +kernel
theorem d40 : decode yB 40 = .ok (.aload_n 2, 1) := by decide +kernel
theorem d41 : decode yB 41 = .ok (.getfield 9, 3) := by decide +kernel
theorem d44 : decode yB 44 = .ok (.invokestatic 541, 3) := by decide +kernel
theorem d47 : decode yB 47 = .ok (.ifCond (.eq) 7, 3) := by decide +kernel
theorem d50 : decode yB 50 = .ok (.iconst 1, 1) := by decide +kernel
theorem d51 : decode yB 51 = .ok (.goto 4, 3) := by decide +kernel
theorem d54 : decode yB 54 = .ok (.iconst 0, 1) := by decide +kernel
theorem d55 : decode yB 55 = .ok (.ireturn, 1) := by decide +kernel
def site : List Cond := [.classLink "java/lang/String" 10 "java/lang/String", .fieldLink "java/lang/String" 38 "java/lang/String" "COMPACT_STRINGS" "Z", .fieldLink "java/lang/String" 15 "java/lang/String" "coder" "B", .fieldLink "java/lang/String" 9 "java/lang/String" "value" "[B", LEq.tab] ++ staticW "java/lang/String" 541 LEq.yN
def tab : Cond := tabOf yN yB 3 (some .boolean) site
def P (x t : Addr) (V : Cell) (cd : Int32) (n : Nat) (f : Nat → Int32) (y t' : Addr) (V' : Cell) (cd' : Int32) (k : Nat) (g : Nat → Int32) (z : Int32) (args : Array Value) (s : State) : Prop := args = #[.ref x, .ref y] ∧ Txt x t V cd n f s ∧ Txt y t' V' cd' k g s ∧ StaticIs s "java/lang/String" "COMPACT_STRINGS" "Z" (.int z) ∧ ¬ z = 0
/-- equals(Object) of two Strings: whether the texts are the same -/
theorem law (l : Launch) (x t : Addr) (V : Cell) (cd : Int32) (n : Nat) (f : Nat → Int32) (y t' : Addr) (V' : Cell) (cd' : Int32) (k : Nat) (g : Nat → Int32) (z : Int32) : Law l yN 2 1 1 14 yB 3 (some .boolean) site (P x t V cd n f y t' V' cd' k g z) (Says01 (SameT n f k g)) [] 0 0 := by
  refine Law.of_walk (plainFor_of_name (by decide +kernel)) (by decide +kernel) (by decide +kernel) (by decide) (fun _ _ h => by rw [h.1]; rfl) (fun _ U U' hal hh h => ⟨h.1, h.2.1.mv hal hh, h.2.2.1.mv hal hh, h.2.2.2.1.there hal hh, h.2.2.2.2⟩) (fun r U U' V V' h1 hal h2 h => Says01.mv r U U' V V' h1 hal h2 h) ?_
  intro p e s m args below meth c s₁ X0 hexec hbytes hml hret hlk hnm hown hh0 W hP
  obtain ⟨rfl, hx, hy, s1, hz⟩ := hP
  have c1 : Steps p.tables e below (s₁.setTop (entryFrame m #[.ref x, .ref y] 3)) (s₁.setTop (mkF m 2 #[.val (.ref x), .val (.ref y), .unset] [.ref y, .ref x])) := Steps.trans (entry rfl) (by
    show Steps p.tables e below (s₁.setTop (mkF m 0 #[.val (.ref x), .val (.ref y), .unset] [])) _
    refine XS.aloadN X0.here hexec rfl (hb hbytes d0) rfl rfl ?_
    refine XS.aloadN X0.here hexec rfl (hb hbytes d1) rfl rfl ?_
    exact Steps.refl _)
  by_cases hxy : x = y
  · have c2 : Steps p.tables e below (s₁.setTop (entryFrame m #[.ref x, .ref y] 3)) (s₁.setTop (mkF m 6 #[.val (.ref x), .val (.ref y), .unset] [.int 1])) := c1.trans (by
      refine acmpNo X0.here hexec rfl (hb hbytes d2) rfl rfl rfl (by simp [acmp, hxy]) ?_
      refine iconstV X0.here hexec rfl 1 (hb hbytes d5) (by decide) ?_
      exact Steps.refl _)
    subst hxy
    have ec : cd = cd' := by
      obtain ⟨D, fd, a1, a2, a3⟩ := hx.2.2.1
      obtain ⟨D', fd', b1, b2, b3⟩ := hy.2.2.1
      cases a1.symm.trans b1
      obtain ⟨q1, q2, q3, q4⟩ := a2.1
      obtain ⟨r1, r2, r3, r4⟩ := b2.1
      cases q4.symm.trans r4
      cases a3.symm.trans b3; rfl
    have et : t = t' := by
      obtain ⟨D, fd, a1, a2, a3⟩ := hx.2.1
      obtain ⟨D', fd', b1, b2, b3⟩ := hy.2.1
      cases a1.symm.trans b1
      obtain ⟨q1, q2, q3, q4⟩ := a2.1
      obtain ⟨r1, r2, r3, r4⟩ := b2.1
      cases q4.symm.trans r4
      cases a3.symm.trans b3; rfl
    subst ec et
    have ev : V = V' := by cases hx.2.2.2.1.1.symm.trans hy.2.2.2.1.1; rfl
    subst ev
    have hs : SameT n f k g := (Cod.eqv hx.2.2.2.2.1 hy.2.2.2.2.1 hx.2.2.2.2.2 hy.2.2.2.2.2).mp ⟨rfl, fun _ _ => rfl⟩
    exact ⟨s₁, some (.int 1), _, _, _, X0, rfl, rfl, rfl, (fun h => by cases h), ⟨1, rfl, hh0, Or.inl ⟨rfl, hs⟩⟩, fun fs hl => c2.trans (X0.ireturnOut hexec hret rfl (Or.inr (Or.inl rfl)) (hb hbytes d6) hl)⟩
  · have c2 : Steps p.tables e below (s₁.setTop (entryFrame m #[.ref x, .ref y] 3)) (s₁.setTop (mkF m 8 #[.val (.ref x), .val (.ref y), .unset] [.ref y])) := c1.trans (by
      refine acmpYes X0.here hexec rfl (pc0 := 2) rfl (hb hbytes d2) rfl rfl rfl (by simp [acmp, hxy]) (by decide) rfl ?_
      refine XS.aloadN X0.here hexec rfl (hb hbytes d7) rfl rfl ?_
      exact Steps.refl _)
    obtain ⟨T3, X3, q3, st3⟩ := cinst X0 hexec hown (wk W (.classLink "java/lang/String" 10 "java/lang/String")) (hy.mv X0.warmed.alike hh0).1 (g := (mkF m 8 #[.val (.ref x), .val (.ref y), .unset] [.ref y])) rfl (rest := []) rfl (hb hbytes d8)
    have hh3 := q3.trans hh0
    have c4 : Steps p.tables e below (s₁.setTop (entryFrame m #[.ref x, .ref y] 3)) (T3.setTop (mkF m 15 #[.val (.ref x), .val (.ref y), .unset] [.ref y])) := (c2.trans (st3 _ (Steps.refl _))).trans (by
      refine XS.ifNo X3.here hexec rfl (hb hbytes d11) rfl (i0_eq_f (by decide)) ?_
      refine XS.aloadN X3.here hexec rfl (hb hbytes d14) rfl rfl ?_
      exact Steps.refl _)
    obtain ⟨T5, X5, q5, st5⟩ := cself X3 hexec hown (wk W (.classLink "java/lang/String" 10 "java/lang/String")) (hy.mv X3.warmed.alike hh3).1 (g := (mkF m 15 #[.val (.ref x), .val (.ref y), .unset] [.ref y])) rfl (rest := []) rfl (hb hbytes d15)
    have hh5 := q5.trans hh3
    have c6 : Steps p.tables e below (s₁.setTop (entryFrame m #[.ref x, .ref y] 3)) (T5.setTop (mkF m 19 #[.val (.ref x), .val (.ref y), .val (.ref y)] [])) := (c4.trans (st5 _ (Steps.refl _))).trans (by
      refine XS.astoreN X5.here hexec rfl (hb hbytes d18) rfl rfl rfl ?_
      exact Steps.refl _)
    obtain ⟨T7, X7, q7, st7⟩ := X5.sget hexec hown (wk W (.fieldLink "java/lang/String" 38 "java/lang/String" "COMPACT_STRINGS" "Z")) s1 (fun _ _ h => by rw [hh5]; exact h) (g := (mkF m 19 #[.val (.ref x), .val (.ref y), .val (.ref y)] [])) rfl (hb hbytes d19)
    have hh7 := q7.trans hh5
    have c8 : Steps p.tables e below (s₁.setTop (entryFrame m #[.ref x, .ref y] 3)) (T7.setTop (mkF m 26 #[.val (.ref x), .val (.ref y), .val (.ref y)] [.ref x])) := (c6.trans (st7 _ (Steps.refl _))).trans (by
      refine XS.ifNo X7.here hexec rfl (hb hbytes d22) rfl (i0_eq_f hz) ?_
      refine XS.aloadN X7.here hexec rfl (hb hbytes d25) rfl rfl ?_
      exact Steps.refl _)
    obtain ⟨T9, X9, q9, st9⟩ := X7.hget hexec hown (wk W (.fieldLink "java/lang/String" 15 "java/lang/String" "coder" "B")) (hx.mv X7.warmed.alike hh7).2.2.1 (g := (mkF m 26 #[.val (.ref x), .val (.ref y), .val (.ref y)] [.ref x])) rfl (rest := []) rfl (hb hbytes d26)
    have hh9 := q9.trans hh7
    have c10 : Steps p.tables e below (s₁.setTop (entryFrame m #[.ref x, .ref y] 3)) (T9.setTop (mkF m 30 #[.val (.ref x), .val (.ref y), .val (.ref y)] [.ref y, .int cd])) := (c8.trans (st9 _ (Steps.refl _))).trans (by
      refine XS.aloadN X9.here hexec rfl (hb hbytes d29) rfl rfl ?_
      exact Steps.refl _)
    obtain ⟨T11, X11, q11, st11⟩ := X9.hget hexec hown (wk W (.fieldLink "java/lang/String" 15 "java/lang/String" "coder" "B")) (hy.mv X9.warmed.alike hh9).2.2.1 (g := (mkF m 30 #[.val (.ref x), .val (.ref y), .val (.ref y)] [.ref y, .int cd])) rfl (rest := [.int cd]) rfl (hb hbytes d30)
    have hh11 := q11.trans hh9
    have c12 : Steps p.tables e below (s₁.setTop (entryFrame m #[.ref x, .ref y] 3)) (T11.setTop (mkF m 33 #[.val (.ref x), .val (.ref y), .val (.ref y)] [.int cd', .int cd])) := c10.trans (st11 _ (Steps.refl _))
    by_cases hcd : cd = cd'
    · subst hcd
      have c13 : Steps p.tables e below (s₁.setTop (entryFrame m #[.ref x, .ref y] 3)) (T11.setTop (mkF m 37 #[.val (.ref x), .val (.ref y), .val (.ref y)] [.ref x])) := c12.trans (by
        refine XS.icmpNo X11.here hexec rfl (hb hbytes d33) rfl (ii_ne_f rfl) ?_
        refine XS.aloadN X11.here hexec rfl (hb hbytes d36) rfl rfl ?_
        exact Steps.refl _)
      obtain ⟨T14, X14, q14, st14⟩ := X11.hget hexec hown (wk W (.fieldLink "java/lang/String" 9 "java/lang/String" "value" "[B")) (hx.mv X11.warmed.alike hh11).2.1 (g := (mkF m 37 #[.val (.ref x), .val (.ref y), .val (.ref y)] [.ref x])) rfl (rest := []) rfl (hb hbytes d37)
      have hh14 := q14.trans hh11
      have c15 : Steps p.tables e below (s₁.setTop (entryFrame m #[.ref x, .ref y] 3)) (T14.setTop (mkF m 41 #[.val (.ref x), .val (.ref y), .val (.ref y)] [.ref y, .ref t])) := (c13.trans (st14 _ (Steps.refl _))).trans (by
        refine XS.aloadN X14.here hexec rfl (hb hbytes d40) rfl rfl ?_
        exact Steps.refl _)
      obtain ⟨T16, X16, q16, st16⟩ := X14.hget hexec hown (wk W (.fieldLink "java/lang/String" 9 "java/lang/String" "value" "[B")) (hy.mv X14.warmed.alike hh14).2.1 (g := (mkF m 41 #[.val (.ref x), .val (.ref y), .val (.ref y)] [.ref y, .ref t])) rfl (rest := [.ref t]) rfl (hb hbytes d41)
      have hh16 := q16.trans hh14
      have c17 : Steps p.tables e below (s₁.setTop (entryFrame m #[.ref x, .ref y] 3)) (T16.setTop (mkF m 44 #[.val (.ref x), .val (.ref y), .val (.ref y)] [.ref t', .ref t])) := c15.trans (st16 _ (Steps.refl _))
      obtain ⟨v18, T18, X18, E18, g18⟩ := X16.callS hexec (LEq.law l t V t' V') hown (wks W (staticW "java/lang/String" 541 LEq.yN)) (wk W LEq.tab) (W := 0) (Nat.le_of_ble_eq_true rfl) (Nat.le_of_ble_eq_true rfl) (Nat.le_refl _) (Nat.le_refl _) (g := (mkF m 44 #[.val (.ref x), .val (.ref y), .val (.ref y)] [.ref t', .ref t])) rfl (by rw [hml]; rfl) c17 (argsL := [.ref t, .ref t']) (rest := []) rfl rfl (by show 2 * 0 + 0 ≤ _; decide) (hb hbytes d44) (⟨rfl, hx.2.2.2.1.mv X16.warmed.alike hh16, hx.2.2.2.2.1.ty, hy.2.2.2.1.mv X16.warmed.alike hh16, hy.2.2.2.2.1.ty⟩)
      obtain ⟨v, rfl, q18, hv⟩ := E18
      have iff := Cod.eqv hx.2.2.2.2.1 hy.2.2.2.2.1 hx.2.2.2.2.2 hy.2.2.2.2.2
      rcases hv with ⟨rfl, he⟩ | ⟨rfl, he⟩
      · have c19 : Steps p.tables e below (s₁.setTop (entryFrame m #[.ref x, .ref y] 3)) (T18.setTop (mkF m 55 #[.val (.ref x), .val (.ref y), .val (.ref y)] [.int 1])) := Steps.trans g18 (by
          refine XS.ifNo X18.here hexec rfl (hb hbytes d47) rfl (i0_eq_f (by decide)) ?_
          refine iconstV X18.here hexec rfl 1 (hb hbytes d50) (by decide) ?_
          refine XS.goto X18.here hexec rfl (pc0 := 51) rfl (hb hbytes d51) (by decide) rfl ?_
          exact Steps.refl _)
        exact ⟨T18, some (.int 1), _, _, _, X18, rfl, rfl, rfl, (fun h => by cases h), ⟨1, rfl, q18.trans hh16, Or.inl ⟨rfl, iff.mp he⟩⟩, fun fs hl => c19.trans (X18.ireturnOut hexec hret rfl (Or.inr (Or.inl rfl)) (hb hbytes d55) hl)⟩
      · have c19 : Steps p.tables e below (s₁.setTop (entryFrame m #[.ref x, .ref y] 3)) (T18.setTop (mkF m 55 #[.val (.ref x), .val (.ref y), .val (.ref y)] [.int 0])) := Steps.trans g18 (by
          refine XS.ifYes X18.here hexec rfl (pc0 := 47) rfl (hb hbytes d47) rfl (i0_eq_t rfl) (by decide) rfl ?_
          refine iconstV X18.here hexec rfl 0 (hb hbytes d54) (by decide) ?_
          exact Steps.refl _)
        exact ⟨T18, some (.int 0), _, _, _, X18, rfl, rfl, rfl, (fun h => by cases h), ⟨0, rfl, q18.trans hh16, Or.inr ⟨rfl, fun q => he (iff.mpr q)⟩⟩, fun fs hl => c19.trans (X18.ireturnOut hexec hret rfl (Or.inr (Or.inl rfl)) (hb hbytes d55) hl)⟩
    · have c13 : Steps p.tables e below (s₁.setTop (entryFrame m #[.ref x, .ref y] 3)) (T11.setTop (mkF m 55 #[.val (.ref x), .val (.ref y), .val (.ref y)] [.int 0])) := c12.trans (by
        refine XS.icmpYes X11.here hexec rfl (pc0 := 33) rfl (hb hbytes d33) rfl (ii_ne_t hcd) (by decide) rfl ?_
        refine iconstV X11.here hexec rfl 0 (hb hbytes d54) (by decide) ?_
        exact Steps.refl _)
      exact ⟨T11, some (.int 0), _, _, _, X11, rfl, rfl, rfl, (fun h => by cases h), ⟨0, rfl, hh11, Or.inr ⟨rfl, Cod.dif hx.2.2.2.2.1 hy.2.2.2.2.1 hcd⟩⟩, fun fs hl => c13.trans (X11.ireturnOut hexec hret rfl (Or.inr (Or.inl rfl)) (hb hbytes d55) hl)⟩
theorem pays {l : Launch} {R : Room} {p : Program} {e : Env} {below : List Frame} {s : State} {sargs : Array Value} {len W : Nat} (x t : Addr) (V : Cell) (cd : Int32) (n : Nat) (f : Nat → Int32) (y t' : Addr) (V' : Cell) (cd' : Int32) (k : Nat) (g : Nat → Int32) (z : Int32) (htab : tab.before sargs s = true) (hfr : 2 ≤ R.frames) (hlo : W + 28 ≤ R.locals) :
    Back l R p e below s sargs yN len W (fun A₁ a₁ => A₁.cells + 0 ≤ R.cells ∧ A₁.slots + 0 ≤ R.slots ∧ P x t V cd n f y t' V' cd' k g z a₁ A₁.U) (fun A₁ _ v₁ B₁ => Says01 (SameT n f k g) v₁ A₁.U B₁.U ∧ B₁.locs = A₁.locs ++ [] ∧ B₁.cells = A₁.cells + 0 ∧ B₁.slots = A₁.slots + 0) :=
  (law l x t V cd n f y t' V' cd' k g z).pays htab hfr (by omega)
end SEq
end StrChars
namespace StrChars.Road
open Jvm Sem ClassFile Op Lib Jvm.Stand Jvm.Free Jvm.Free.XT
open Jvm.Lib.Cold (StaticIs)
/-- the words of String.equals(Object) -/
abbrev wordsEq : List Jvm.Cond := [.code SEq.yN SEq.yB 3 (some .boolean), .initialized ST, .classLink ST 10 ST, .fieldLink ST 38 ST "COMPACT_STRINGS" "Z", .fieldLink ST 15 ST "coder" "B", .fieldLink ST 9 ST "value" "[B", .methodLink ST 541 LEq.yN, .static LEq.yN, .code LEq.yN LEq.yB 3 (some .boolean), .initialized "java/lang/StringLatin1"]
theorem tabEq_of {a : Array Value} {s : State} (h : ∀ w ∈ wordsEq, w.before a s = true) : SEq.tab.before a s = true := by
  have hl : LEq.tab.before a s = true := unparts (wk h (.code LEq.yN LEq.yB 3 (some .boolean))) (wks h (.initialized LEq.yN.cls :: LEq.site))
  have q := consq hl h
  exact unparts (wk q (.code SEq.yN SEq.yB 3 (some .boolean))) (wks q (.initialized SEq.yN.cls :: SEq.site))
theorem movedEq {Z s : State} {a0 args : Array Value} (hZ : Z.Warmed39 s.vm) (hw : ∀ d ∈ wordsEq, d.before a0 Z = true) : ∀ d ∈ wordsEq, d.before args s = true := fun d hd => by
  have t : ∀ d ∈ wordsEq, (d.onTables && d.keepsFace) = true := by decide +kernel
  exact RoadKit.mv hZ (hw d hd) (t d hd)
/-- the road's facts of a String, as the laws ask it -/
theorem txt_of {Z U : State} {a0 : Array Value} {kI : Nat} (wi : (Jvm.Cond.instantiable ST kI).before a0 Z = true) (al : Z.vm.Alike U.vm) {x t : Addr} {kb : ClassId} {cs : List Int32} {cd N2 : Int32} {vs : List Value} (E : RoadKit.Exa Z U.heap x ST) (V : RoadKit.Fld Z U.heap x ST "value" "[B" (.ref t)) (C : RoadKit.Fld Z U.heap x ST "coder" "B" (.int cd)) (K : RoadKit.Arv Z U.heap t kb .byte N2 vs (.int 0)) (hc : CodA cs cd N2 vs) (hb : ∀ c ∈ cs, ¬ c < 0 ∧ ¬ (65535 : Int32) < c) (l2 : cs.length ≤ 4000) :
    ∃ A, Txt x t A cd cs.length (fun j => cs.getD j 0) U := by
  obtain ⟨A, K1, K2, K3, K4, K5, K6⟩ := K
  have hcod := hc.cod (by omega) K3 K5
  obtain ⟨D, fV, fC, hB, F1, F2, g1, g2, -, -⟩ := strObj wi al E V C
  exact ⟨A, ⟨_, hB.2.2.1, D, hB.1, rfl, by cases q : D.vm <;> first | rfl | exact absurd q (hB.2.1.2 _)⟩, Has.of hB F1 g1, Has.of hB F2 g2, ⟨K1.1, State.isArrayOf_alike al K1.2.1, K1.2.2, by rcases hcod with ⟨-, q, -⟩ | ⟨-, q, -⟩ <;> omega⟩, hcod, fun j hj => by
    have e : cs.getD j 0 = cs[j] := by simp [List.getD_eq_getElem?_getD, hj]
    show ¬ cs.getD j 0 < 0 ∧ ¬ 65535 < cs.getD j 0
    rw [e]; exact hb _ (List.getElem_mem _)⟩
theorem same_list (cs ds : List Int32) : SameT cs.length (fun j => cs.getD j 0) ds.length (fun j => ds.getD j 0) ↔ cs = ds := by
  constructor
  · rintro ⟨e, q⟩
    refine List.ext_getElem e fun j h1 h2 => ?_
    have := q j h1
    simpa [List.getD_eq_getElem?_getD, h1, h2] using this
  · rintro rfl
    exact ⟨rfl, fun _ _ => rfl⟩
/-- **equals(Object) OF TWO SUCH STRINGS**: 1 just where the chars are the same -/
theorem eqW {p : Program} {l : Launch} {e : Env} {R : Room} {s : State} {args : Array Value} {below : List Frame} {len W : Nat} {Z : State} {a0 : Array Value} {h : Heap} (hZ : Z.Warmed39 s.vm) (hw : ∀ d ∈ wordsEq, d.before a0 Z = true) {kI : Nat} (wi : (Jvm.Cond.instantiable ST kI).before a0 Z = true)
    {x t : Addr} {kb : ClassId} {cs : List Int32} {cd N2 : Int32} {vs : List Value} (E : RoadKit.Exa Z h x ST) (V : RoadKit.Fld Z h x ST "value" "[B" (.ref t)) (C : RoadKit.Fld Z h x ST "coder" "B" (.int cd)) (K : RoadKit.Arv Z h t kb .byte N2 vs (.int 0)) (hc : CodA cs cd N2 vs) (hb : ∀ c ∈ cs, ¬ c < 0 ∧ ¬ (65535 : Int32) < c) (l2 : cs.length ≤ 4000)
    {y t' : Addr} {kb' : ClassId} {ds : List Int32} {cd' N2' : Int32} {vs' : List Value} (E' : RoadKit.Exa Z h y ST) (V' : RoadKit.Fld Z h y ST "value" "[B" (.ref t')) (C' : RoadKit.Fld Z h y ST "coder" "B" (.int cd')) (K' : RoadKit.Arv Z h t' kb' .byte N2' vs' (.int 0)) (hc' : CodA ds cd' N2' vs') (hb' : ∀ c ∈ ds, ¬ c < 0 ∧ ¬ (65535 : Int32) < c) (l2' : ds.length ≤ 4000)
    {z : Int32} (S : RoadKit.Sta Z h ST "COMPACT_STRINGS" "Z" (.int z)) (hz : ¬ z = 0) (hfr : 2 ≤ R.frames) (hlo : W + 28 ≤ R.locals) :
    Back l R p e below s args (⟨"java/lang/String", "equals", "(Ljava/lang/Object;)Z"⟩ : MethodName) len W (fun P a => a = #[.ref x, .ref y] ∧ P.U.heap = h ∧ P.cells + 0 ≤ R.cells ∧ P.slots + 0 ≤ R.slots)
      (fun P _ v B => ∃ L, (((v = some (.int 1) ∧ cs = ds) ∨ (v = some (.int 0) ∧ ¬ cs = ds)) ∧ L = [] ∧ B.U.heap = h) ∧ B.locs = P.locs ++ L ∧ B.cells = P.cells + 0 ∧ B.slots = P.slots + 0) := by
  intro m meth c P g ig mk a X hg hsize hdg hW hn hp'
  obtain ⟨rfl, rfl, r1, r2⟩ := hp'
  have al : Z.vm.Alike P.U.vm := hZ.alike.trans X.warmed.alike
  obtain ⟨A, hx⟩ := txt_of wi al E V C K hc hb l2
  obtain ⟨A', hy⟩ := txt_of wi al E' V' C' K' hc' hb' l2'
  obtain ⟨v, B, X', ⟨⟨w, hv, hh, hq⟩, hl, hk, hs⟩, st⟩ := SEq.pays x t A cd cs.length (fun j => cs.getD j 0) y t' A' cd' ds.length (fun j => ds.getD j 0) z (tabEq_of (movedEq hZ hw)) hfr hlo m meth c P g ig mk _ X hg hsize hdg hW hn ⟨r1, r2, rfl, hx, hy, sta_is al S, hz⟩
  refine ⟨v, B, X', ⟨[], ⟨?_, rfl, hh⟩, hl, hk, hs⟩, st⟩
  rcases hq with ⟨rfl, q⟩ | ⟨rfl, q⟩
  · exact Or.inl ⟨hv, (same_list cs ds).mp q⟩
  · exact Or.inr ⟨hv, fun e => q ((same_list cs ds).mpr e)⟩
end StrChars.Road
namespace StrChars.Road
open Jvm Sem ClassFile Op Lib Jvm.Stand Jvm.Free Jvm.Free.XT
open Jvm.Lib.Cold (StaticIs)
/-- what backV says of its String, as the contracts of this text ask it: cs's low bytes, coder 0 -/
theorem codOf {cs : List Int32} {n : Nat} (hn : cs.length = n) (hb : ∀ c ∈ cs, ¬ 255 < c) : CodA cs 0 (Int32.ofNat n) ((cs.map lo8).map Value.int) := Or.inl ⟨rfl, by rw [hn], by simp [List.map_map, Function.comp_def], hb⟩
end StrChars.Road
end Jvm.Pilot.@@N@@

namespace Jvm.Pilot.@@N@@
open Jvm Jvm.ClassFile Sem Op Lib Jvm.Free Jvm.Stand Jvm.LawKit Jvm.RoadKit Bundle Jvm.Pilot.@@N@@.Jvm.D
/-! A walk by continuations: own_Go says that from here the body runs to an end that P allows. -/
def own_Go (p : Program) (e : Env) (below : List Frame) (P : Outcome → State → Prop) (T : State) (g : JFrame) : Prop :=
  ∃ s₂ o, Steps p.tables e below (T.setTop g) s₂ ∧ s₂.status = .running ∧ Ended s₂ below o ∧ P o s₂
abbrev own_End (s : State) (Q : Option Value → Heap → List Loc → Prop) (C S : Nat) : Outcome → State → Prop := fun o s₂ => ∃ v L, o = .returned v ∧ Q v s₂.heap L ∧ FrameEnd s o s₂ L C S
theorem own_pc {m : MethodId} {pc : Nat} {Ls : Array Slot} {st : List Value} {off : Int} (h : 0 ≤ (pc : Int) + off) : 0 ≤ ((mkF m pc Ls st).pc : Int) + off := h
section Own
variable {p : Program} {l : Launch} {e : Env} {R : Room} {s : State} {m : MethodId} {args : Array Value} {below : List Frame} {meth : Method} {c : Code} {T T' : State} {locs : List Loc} {cells slots : Nat} {P : Outcome → State → Prop} {g g' : JFrame} {Q : Option Value → Heap → List Loc → Prop} {C S : Nat}
theorem own_st (h : ∀ t, Steps p.tables e below (T'.setTop g') t → Steps p.tables e below (T.setTop g) t) (k : own_Go p e below P T' g') : own_Go p e below P T g := by
  obtain ⟨s₂, o, h1, r⟩ := k
  exact ⟨s₂, o, h _ h1, r⟩
theorem own_entry (q : g = g') (k : own_Go p e below P T g') : ∃ s₂ o, Steps p.tables e below (T.setTop g) s₂ ∧ s₂.status = .running ∧ Ended s₂ below o ∧ P o s₂ := by
  subst q
  exact k
theorem own_join {α : Type} {F : α → Prop} {g' : α → JFrame} {T' : State} (k : ∀ b, F b → own_Go p e below P T' (g' b)) (j : (∀ b, F b → own_Go p e below P T' (g' b)) → own_Go p e below P T g) : own_Go p e below P T g := j k
theorem own_joinT {S0 : State} {h : Heap} {α : Type} {F : α → Prop} {g' : α → JFrame} (X : Stand p l e R S0 m args below meth c T locs cells slots) (eT : T.heap = h)
    (k : ∀ b T', F b → Stand p l e R S0 m args below meth c T' locs cells slots → T'.heap = h → own_Go p e below P T' (g' b)) (j : (∀ b T', F b → Stand p l e R S0 m args below meth c T' locs cells slots → T'.heap = h → own_Go p e below P T' (g' b)) → own_Go p e below P T g) : own_Go p e below P T g := j k
theorem own_leave (X : Stand p l e R s m args below meth c T locs cells slots) (hlk : meth.locks = false) {v : Option Value} (hv : meth.sig.returnType = none → v = none)
    (k : ∀ fs, (∀ (f : JFrame) (acts : List Action), f.method = m → f.locked = none → f.entered = [] → (doReturn e (T.setTop f) acts v).1 = T.setFrames fs) → Steps p.tables e below (T.setTop g) (T.setFrames fs))
    (hQ : Q v T.heap locs) (hC : cells ≤ C) (hS : slots ≤ S) : own_Go p e below (own_End s Q C S) T g := by
  obtain ⟨fs, hr, hrun, hended, hW, hsame⟩ := X.leave hv hlk
  exact ⟨_, _, k fs hr, hrun, hended, _, _, rfl, hQ, ⟨_, rfl⟩, hW, hsame.mono hC hS⟩
theorem own_retN (X : Stand p l e R s m args below meth c T locs cells slots) (hx : p.tables.exec = Jvm.exec) (hlk : meth.locks = false) {pc : Nat} {Ls : Array Slot} {z : Int32} {t : FieldType} {rest : List Value} (hret : meth.sig.returnType = some t) (ht : t = .boolean ∨ t = .byte ∨ t = .char ∨ t = .short)
    (hd : decode c.code pc = .ok (.ireturn, 1)) (hQ : Q (some (.int (nar t z))) T.heap locs) (hC : cells ≤ C) (hS : slots ≤ S) : own_Go p e below (own_End s Q C S) T (mkF m pc Ls (.int z :: rest)) :=
  own_leave X hlk (fun h => by rw [hret] at h; cases h) (fun fs hr => retN X hx hret ht hd hr) hQ hC hS
theorem own_retI (X : Stand p l e R s m args below meth c T locs cells slots) (hx : p.tables.exec = Jvm.exec) (hlk : meth.locks = false) {pc : Nat} {Ls : Array Slot} {z : Int32} {rest : List Value} (hret : meth.sig.returnType = some .int)
    (hd : decode c.code pc = .ok (.ireturn, 1)) (hQ : Q (some (.int z)) T.heap locs) (hC : cells ≤ C) (hS : slots ≤ S) : own_Go p e below (own_End s Q C S) T (mkF m pc Ls (.int z :: rest)) :=
  own_leave X hlk (fun h => by rw [hret] at h; cases h) (fun fs hr => retOut X hx hret rfl (Or.inl ⟨rfl, Or.inl rfl, z, rfl⟩) hd hr) hQ hC hS
theorem own_retJ (X : Stand p l e R s m args below meth c T locs cells slots) (hx : p.tables.exec = Jvm.exec) (hlk : meth.locks = false) {pc : Nat} {Ls : Array Slot} {z : Int64} {rest : List Value} (hret : meth.sig.returnType = some .long)
    (hd : decode c.code pc = .ok (.lreturn, 1)) (hQ : Q (some (.long z)) T.heap locs) (hC : cells ≤ C) (hS : slots ≤ S) : own_Go p e below (own_End s Q C S) T (mkF m pc Ls (.long z :: rest)) :=
  own_leave X hlk (fun h => by rw [hret] at h; cases h) (fun fs hr => retOut X hx hret rfl (Or.inr (Or.inl ⟨rfl, rfl, z, rfl⟩)) hd hr) hQ hC hS
theorem own_narrow_ref {t : FieldType} {w : Value} (ht : t.isReference = true) : narrow t w = w := by cases t <;> first | rfl | cases ht
theorem own_retA (X : Stand p l e R s m args below meth c T locs cells slots) (hx : p.tables.exec = Jvm.exec) (hlk : meth.locks = false) {pc : Nat} {Ls : Array Slot} {w : Value} {t : FieldType} {rest : List Value} (hret : meth.sig.returnType = some t) (ht : t.isReference = true) (hw : w.isRef = true)
    (hd : decode c.code pc = .ok (.areturn, 1)) (hQ : Q (some w) T.heap locs) (hC : cells ≤ C) (hS : slots ≤ S) : own_Go p e below (own_End s Q C S) T (mkF m pc Ls (w :: rest)) :=
  own_leave X hlk (fun h => by rw [hret] at h; cases h) (fun fs hr => retOut X hx hret (own_narrow_ref ht) (Or.inr (Or.inr (Or.inr (Or.inr ⟨rfl, ht, hw⟩)))) hd hr) hQ hC hS
theorem own_ret0 (X : Stand p l e R s m args below meth c T locs cells slots) (hx : p.tables.exec = Jvm.exec) (hlk : meth.locks = false) {pc : Nat} {Ls : Array Slot} (hret : meth.sig.returnType = none)
    (hd : decode c.code pc = .ok (.return_, 1)) (hQ : Q none T.heap locs) (hC : cells ≤ C) (hS : slots ≤ S) : own_Go p e below (own_End s Q C S) T (mkF m pc Ls []) :=
  own_leave X hlk (fun _ => rfl) (fun fs hr => X.returnOut hx hret hd hr) hQ hC hS
theorem own_callS (X : Stand p l e R s m args below meth c T locs cells slots) (hx : p.tables.exec = Jvm.exec) {own : String} {index : Nat} {y : MethodName} {bytes : ByteArray} {maxL : Nat} {ret : Option FieldType}
    (hown : s.vm.findClass own = some m.cls) (hlink : (Cond.methodLink own index y).before args s = true) (hstat : (Cond.static y).before args s = true) (hinit : (Cond.initialized y.cls).before args s = true)
    (hcode : (Cond.code y bytes maxL ret).before args s = true) (hy : y.cls ≠ "java/lang/invoke/MethodHandle" ∧ y.cls ≠ "java/lang/invoke/VarHandle")
    {W rc rs : Nat} {as' : Array Value} {h : Heap} {Qc : Option Value → Heap → List Loc → Prop}
    (hK : Back l R p e below s args y 3 W (fun A a => a = as' ∧ A.U.heap = h ∧ A.cells + rc ≤ R.cells ∧ A.slots + rs ≤ R.slots) (fun A _ v B => ∃ L, Qc v B.U.heap L ∧ B.locs = A.locs ++ L ∧ B.cells = A.cells + rc ∧ B.slots = A.slots + rs))
    (hg : g.method = m) (hsize : g.locals.size = c.maxLocals) {argsL rest : List Value} (hlen : ∀ sig, parseMethodDescriptor y.desc = some sig → argsL.length = sig.parameters.length)
    (hstack : g.stack = argsL.reverse ++ rest) (hW : 2 * g.monitorRoom + (rest.map fun v => v.category).sum ≤ W) (hdg : decode c.code g.pc = .ok (.invokestatic index, 3))
    (ha : argsL.toArray = as') (eT : T.heap = h) (hc : cells + rc ≤ R.cells) (hs : slots + rs ≤ R.slots)
    (k : ∀ v T' L, Stand p l e R s m args below meth c T' (locs ++ L) (cells + rc) (slots + rs) → Qc v T'.heap L → own_Go p e below P T' { g with pc := g.pc + 3, stack := v.toList ++ rest }) : own_Go p e below P T g := by
  obtain ⟨v, vm₁, ⟨T', L', k', n'⟩, -, X', ⟨L, hQ, l1, y1, z1⟩, st⟩ := Jvm.LawKit.callS X hx hown hlink hstat hinit hcode hy hK hg hsize hlen hstack hW hdg (fun _ _ => ⟨ha, eT, hc, hs⟩)
  dsimp only [Pt.U, Pt.locs, Pt.cells, Pt.slots] at X' l1 y1 z1 st hQ
  subst l1 y1 z1
  exact own_st st (k v T' L X' hQ)
theorem own_callN (X : Stand p l e R s m args below meth c T locs cells slots) (hx : p.tables.exec = Jvm.exec) {own : String} {index : Nat} {y : MethodName} {bytes : ByteArray} {maxL : Nat} (hy1 : y.name = "<init>")
    (hown : s.vm.findClass own = some m.cls) (hlink : (Cond.methodLink own index y).before args s = true) (hinst : (Cond.instanceMethod y).before args s = true)
    (hcode : (Cond.code y bytes maxL none).before args s = true) (hy : y.cls ≠ "java/lang/invoke/MethodHandle" ∧ y.cls ≠ "java/lang/invoke/VarHandle")
    {W rc rs : Nat} {as' : Array Value} {h : Heap} {Qc : Option Value → Heap → List Loc → Prop}
    (hK : Back l R p e below s args y 3 W (fun A a => a = as' ∧ A.U.heap = h ∧ A.cells + rc ≤ R.cells ∧ A.slots + rs ≤ R.slots) (fun A _ v B => ∃ L, Qc v B.U.heap L ∧ B.locs = A.locs ++ L ∧ B.cells = A.cells + rc ∧ B.slots = A.slots + rs))
    {a : Addr} (hg : g.method = m) (hsize : g.locals.size = c.maxLocals) {argsL rest : List Value} (hlen : ∀ sig, parseMethodDescriptor y.desc = some sig → argsL.length = sig.parameters.length)
    (hstack : g.stack = argsL.reverse ++ .ref a :: rest) (hW : 2 * g.monitorRoom + (rest.map fun v => v.category).sum ≤ W) (hdg : decode c.code g.pc = .ok (.invokespecial index, 3))
    (ha : (Value.ref a :: argsL).toArray = as') (eT : T.heap = h) (hc : cells + rc ≤ R.cells) (hs : slots + rs ≤ R.slots)
    (k : ∀ v T' L, Stand p l e R s m args below meth c T' (locs ++ L) (cells + rc) (slots + rs) → Qc v T'.heap L → own_Go p e below P T' { g with pc := g.pc + 3, stack := v.toList ++ rest }) : own_Go p e below P T g := by
  obtain ⟨v, vm₁, ⟨T', L', k', n'⟩, -, X', ⟨L, hQ, l1, y1, z1⟩, st⟩ := X.specialBack hx hy1 hown hlink hinst hcode hy hK hg hsize (Steps.refl _) hlen hstack hW hdg (fun _ _ => ⟨ha, eT, hc, hs⟩)
  dsimp only [Pt.U, Pt.locs, Pt.cells, Pt.slots] at X' l1 y1 z1 st hQ
  subst l1 y1 z1
  exact own_st (fun t k => st.trans k) (k v T' L X' hQ)
theorem own_callV (X : Stand p l e R s m args below meth c T locs cells slots) (hx : p.tables.exec = Jvm.exec) {own Cn : String} {index : Nat} {y z : MethodName}
    (hown : s.vm.findClass own = some m.cls) (hlink : (Cond.methodLink own index y).before args s = true) (hdecl : (Cond.declares y).before args s = true) (hnf : NotFace s y)
    (hsel : (Cond.selects Cn y z).before args s = true) (hinst : (Cond.instanceMethod z).before args s = true)
    (hy : y.cls ≠ "java/lang/invoke/MethodHandle" ∧ y.cls ≠ "java/lang/invoke/VarHandle")
    {W rc rs : Nat} {as' : Array Value} {h : Heap} {Qc : Option Value → Heap → List Loc → Prop}
    (hK : Back l R p e below s args z 3 W (fun A a => a = as' ∧ A.U.heap = h ∧ A.cells + rc ≤ R.cells ∧ A.slots + rs ≤ R.slots) (fun A _ v B => ∃ L, Qc v B.U.heap L ∧ B.locs = A.locs ++ L ∧ B.cells = A.cells + rc ∧ B.slots = A.slots + rs))
    {a : Addr} {cB : ClassId} (hcB : s.vm.findClass Cn = some cB) (hrecv : IsOf cB T a)
    (hg : g.method = m) (hsize : g.locals.size = c.maxLocals) {argsL rest : List Value} (hlen : ∀ sig, parseMethodDescriptor y.desc = some sig → argsL.length = sig.parameters.length)
    (hstack : g.stack = argsL.reverse ++ .ref a :: rest) (hW : 2 * g.monitorRoom + (rest.map fun v => v.category).sum ≤ W) (hdg : decode c.code g.pc = .ok (.invokevirtual index, 3))
    (ha : (Value.ref a :: argsL).toArray = as') (eT : T.heap = h) (hc : cells + rc ≤ R.cells) (hs : slots + rs ≤ R.slots)
    (k : ∀ v T' L, Stand p l e R s m args below meth c T' (locs ++ L) (cells + rc) (slots + rs) → Qc v T'.heap L → own_Go p e below P T' { g with pc := g.pc + 3, stack := v.toList ++ rest }) : own_Go p e below P T g := by
  obtain ⟨v, vm₁, ⟨T', L', k', n'⟩, -, X', ⟨L, hQ, l1, y1, z1⟩, st⟩ := X.virtualBack hx hown hlink hdecl hnf hsel hinst hy hK hcB hrecv hg hsize (Steps.refl _) hlen hstack hW hdg (fun _ _ => ⟨ha, eT, hc, hs⟩)
  dsimp only [Pt.U, Pt.locs, Pt.cells, Pt.slots] at X' l1 y1 z1 st hQ
  subst l1 y1 z1
  exact own_st (fun t k => st.trans k) (k v T' L X' hQ)
theorem own_callI (X : Stand p l e R s m args below meth c T locs cells slots) (hx : p.tables.exec = Jvm.exec) {own Cn : String} {index count : Nat} {xi y : MethodName}
    (hown : s.vm.findClass own = some m.cls) (hlink : (Cond.methodLink own index xi).before args s = true) (hdecl : (Cond.declares xi).before args s = true)
    (hface : (Cond.interfaceMethod xi.cls xi.cls xi.name xi.desc).before args s = true) (hsel : (Cond.selects Cn xi y).before args s = true) (hinst : (Cond.instanceMethod y).before args s = true)
    (hpub : (Cond.publicMethod y).before args s = true) (hunh : (Cond.unhidden Cn xi.name xi.desc).before args s = true) (hcast : (Cond.castable Cn xi.cls).before args s = true)
    (hy : xi.cls ≠ "java/lang/invoke/MethodHandle" ∧ xi.cls ≠ "java/lang/invoke/VarHandle")
    {W rc rs : Nat} {as' : Array Value} {h : Heap} {Qc : Option Value → Heap → List Loc → Prop}
    (hK : Back l R p e below s args y 5 W (fun A a => a = as' ∧ A.U.heap = h ∧ A.cells + rc ≤ R.cells ∧ A.slots + rs ≤ R.slots) (fun A _ v B => ∃ L, Qc v B.U.heap L ∧ B.locs = A.locs ++ L ∧ B.cells = A.cells + rc ∧ B.slots = A.slots + rs))
    {a : Addr} {cB : ClassId} {kB : Class} (hcB : s.vm.findClass Cn = some cB) (hkB : s.vm.classes[cB]? = some kB) (hrecv : IsOf cB T a)
    (hg : g.method = m) (hsize : g.locals.size = c.maxLocals) {argsL rest : List Value} (hlen : ∀ sig, parseMethodDescriptor xi.desc = some sig → argsL.length = sig.parameters.length)
    (hstack : g.stack = argsL.reverse ++ .ref a :: rest) (hW : 2 * g.monitorRoom + (rest.map fun v => v.category).sum ≤ W) (hdg : decode c.code g.pc = .ok (.invokeinterface index count, 5))
    (ha : (Value.ref a :: argsL).toArray = as') (eT : T.heap = h) (hc : cells + rc ≤ R.cells) (hs : slots + rs ≤ R.slots)
    (k : ∀ v T' L, Stand p l e R s m args below meth c T' (locs ++ L) (cells + rc) (slots + rs) → Qc v T'.heap L → own_Go p e below P T' { g with pc := g.pc + 5, stack := v.toList ++ rest }) : own_Go p e below P T g := by
  obtain ⟨v, vm₁, ⟨T', L', k', n'⟩, -, X', ⟨L, hQ, l1, y1, z1⟩, st⟩ := X.interfaceBack hx hown hlink hdecl hface hsel hinst hpub hunh hcast hy hK hcB hkB hrecv hg hsize (Steps.refl _) hlen hstack hW hdg (fun _ _ => ⟨ha, eT, hc, hs⟩)
  dsimp only [Pt.U, Pt.locs, Pt.cells, Pt.slots] at X' l1 y1 z1 st hQ
  subst l1 y1 z1
  exact own_st (fun t k => st.trans k) (k v T' L X' hQ)
theorem own_callP (X : Stand p l e R s m args below meth c T locs cells slots) (hx : p.tables.exec = Jvm.exec) {own : String} {index : Nat} {y : MethodName} {bytes : ByteArray} {maxL : Nat} {ret : Option FieldType}
    (hown : s.vm.findClass own = some m.cls) (hlink : (Cond.methodLink own index y).before args s = true) (hinst : (Cond.instanceMethod y).before args s = true) (hsel : (Cond.selects y.cls y y).before args s = true)
    (hpriv : s.PrivateAt y) (hcode : (Cond.code y bytes maxL ret).before args s = true) (hy : y.cls ≠ "java/lang/invoke/MethodHandle" ∧ y.cls ≠ "java/lang/invoke/VarHandle")
    {W rc rs : Nat} {as' : Array Value} {h : Heap} {Qc : Option Value → Heap → List Loc → Prop}
    (hK : Back l R p e below s args y 3 W (fun A a => a = as' ∧ A.U.heap = h ∧ A.cells + rc ≤ R.cells ∧ A.slots + rs ≤ R.slots) (fun A _ v B => ∃ L, Qc v B.U.heap L ∧ B.locs = A.locs ++ L ∧ B.cells = A.cells + rc ∧ B.slots = A.slots + rs))
    {a : Addr} {cell : Cell} (hcell : T.heap[a]? = some cell) (hobj : ∀ q, cell.vm ≠ .statics q)
    (hg : g.method = m) (hsize : g.locals.size = c.maxLocals) {argsL rest : List Value} (hlen : ∀ sig, parseMethodDescriptor y.desc = some sig → argsL.length = sig.parameters.length)
    (hstack : g.stack = argsL.reverse ++ .ref a :: rest) (hW : 2 * g.monitorRoom + (rest.map fun v => v.category).sum ≤ W) (hdg : decode c.code g.pc = .ok (.invokevirtual index, 3))
    (ha : (Value.ref a :: argsL).toArray = as') (eT : T.heap = h) (hc : cells + rc ≤ R.cells) (hs : slots + rs ≤ R.slots)
    (k : ∀ v T' L, Stand p l e R s m args below meth c T' (locs ++ L) (cells + rc) (slots + rs) → Qc v T'.heap L → own_Go p e below P T' { g with pc := g.pc + 3, stack := v.toList ++ rest }) : own_Go p e below P T g := by
  obtain ⟨v, vm₁, ⟨T', L', k', n'⟩, -, X', ⟨L, hQ, l1, y1, z1⟩, st⟩ := X.privateBack hx hown hlink hinst hsel hpriv hcode hy hK hg hsize (Steps.refl _) hcell hobj hlen hstack hW hdg (fun _ _ => ⟨ha, eT, hc, hs⟩)
  dsimp only [Pt.U, Pt.locs, Pt.cells, Pt.slots] at X' l1 y1 z1 st hQ
  subst l1 y1 z1
  exact own_st (fun t k => st.trans k) (k v T' L X' hQ)
theorem own_callU (X : Stand p l e R s m args below meth c T locs cells slots) (hx : p.tables.exec = Jvm.exec) {own Cn owner : String} {index : Nat} {y z : MethodName}
    (hown : s.vm.findClass own = some m.cls) (hlink : (Cond.methodLink own index y).before args s = true) (hsame : (Cond.sameMethod y.cls owner y.name y.desc).before args s = true)
    (hdecl : (Cond.declares ⟨owner, y.name, y.desc⟩).before args s = true) (howner : owner ≠ "java/lang/invoke/MethodHandle" ∧ owner ≠ "java/lang/invoke/VarHandle")
    (hsel : (Cond.selects Cn y z).before args s = true) (hinst : (Cond.instanceMethod z).before args s = true)
    {W rc rs : Nat} {as' : Array Value} {h : Heap} {Qc : Option Value → Heap → List Loc → Prop}
    (hK : Back l R p e below s args z 3 W (fun A a => a = as' ∧ A.U.heap = h ∧ A.cells + rc ≤ R.cells ∧ A.slots + rs ≤ R.slots) (fun A _ v B => ∃ L, Qc v B.U.heap L ∧ B.locs = A.locs ++ L ∧ B.cells = A.cells + rc ∧ B.slots = A.slots + rs))
    {a : Addr} {cB : ClassId} (hcB : s.vm.findClass Cn = some cB) (hrecv : IsOf cB T a)
    (hg : g.method = m) (hsize : g.locals.size = c.maxLocals) {argsL rest : List Value} (hlen : ∀ sig, parseMethodDescriptor y.desc = some sig → argsL.length = sig.parameters.length)
    (hstack : g.stack = argsL.reverse ++ .ref a :: rest) (hW : 2 * g.monitorRoom + (rest.map fun v => v.category).sum ≤ W) (hdg : decode c.code g.pc = .ok (.invokevirtual index, 3))
    (ha : (Value.ref a :: argsL).toArray = as') (eT : T.heap = h) (hc : cells + rc ≤ R.cells) (hs : slots + rs ≤ R.slots)
    (k : ∀ v T' L, Stand p l e R s m args below meth c T' (locs ++ L) (cells + rc) (slots + rs) → Qc v T'.heap L → own_Go p e below P T' { g with pc := g.pc + 3, stack := v.toList ++ rest }) : own_Go p e below P T g := by
  obtain ⟨v, vm₁, ⟨T', L', k', n'⟩, -, X', ⟨L, hQ, l1, y1, z1⟩, st⟩ := X.virtualBackUp hx hown hlink hsame hdecl howner hsel hinst hK hcB hrecv hg hsize (Steps.refl _) hlen hstack hW hdg (fun _ _ => ⟨ha, eT, hc, hs⟩)
  dsimp only [Pt.U, Pt.locs, Pt.cells, Pt.slots] at X' l1 y1 z1 st hQ
  subst l1 y1 z1
  exact own_st (fun t k => st.trans k) (k v T' L X' hQ)
end Own
section OwnWords
variable {args : Array Value} {s : State} {t u : Term} {x y : Addr} {C n d : String} {z : Int32}
theorem own_feqR (h : (Cond.eq (Term.field t C n d) u).value args s none s [] = some true) (ht : t.eval args s none [] s = some (.ref x)) (hu : u.eval args s none [] s = some (.ref y)) : s.fieldOf? x C n d = some (.ref y) := by
  obtain ⟨x', y', h1, h2, k1, k2⟩ := cmp_v (Or.inl h)
  cases hu.symm.trans h2
  have hr : x'.isRef = true := k2.2
  have := gotT (eq_R h1 h2 hr rfl) h
  rw [← fld_at ht (idx := []) (first := s) (o := none) (args := args), h1, this]
theorem own_feqI (h : (Cond.eq (Term.field t C n d) (.int z)).value args s none s [] = some true) (ht : t.eval args s none [] s = some (.ref x)) : s.fieldOf? x C n d = some (.int z) := by
  obtain ⟨x', y', h1, h2, k1, k2⟩ := cmp_v (Or.inl h)
  cases (Term.int_eval z).symm.trans h2
  obtain ⟨z', rfl⟩ := k2
  have : z' = z := by simpa [Cond.value, h1, Term.int_eval] using h
  rw [← fld_at ht (idx := []) (first := s) (o := none) (args := args), h1, this]
end OwnWords
section OwnArr
variable {args : Array Value} {s : State} {t : Term} {a : Addr} {cl : Cell} {ty : FieldType} {z j v : Int32}
theorem own_len (h : (Cond.eq (Term.length t) (.int z)).value args s none s [] = some true) (ht : t.eval args s none [] s = some (.ref a)) (A : Arr s s.heap a cl ty) : cl.slots.size < 2 ^ 31 ∧ cl.slots.size.toInt32 = z := by
  obtain ⟨x', y', h1, h2, k1, k2⟩ := cmp_v (Or.inl h)
  cases (Term.int_eval z).symm.trans h2
  obtain ⟨z', rfl⟩ := k2
  have e : z' = z := by simpa [Cond.value, h1, Term.int_eval] using h
  have ha := A.fin (Vm.Alike.refl _)
  by_cases q : cl.slots.size < 2 ^ 31
  · rw [len_f ht ha q] at h1
    cases h1
    exact ⟨q, e⟩
  · simp [Term.eval, ht, ha, q] at h1
theorem own_elem (h : (Cond.eq (Term.elem t (.int j)) (.int v)).value args s none s [] = some true) (ht : t.eval args s none [] s = some (.ref a)) (A : Arr s s.heap a cl ty) (hj : ¬ j < 0) : cl.slots[j.toNatClampNeg]? = some (.int v) := by
  obtain ⟨x', y', h1, h2, k1, k2⟩ := cmp_v (Or.inl h)
  cases (Term.int_eval v).symm.trans h2
  obtain ⟨z', rfl⟩ := k2
  have e : z' = v := by simpa [Cond.value, h1, Term.int_eval] using h
  rw [elem_f ht (Term.int_eval j) (A.fin (Vm.Alike.refl _)) hj] at h1
  rw [h1, e]
end OwnArr

theorem own_words {Z : State} {a0 : Array Value} (hw : ∀ d ∈ tables_1, d.before a0 Z = true) : ∀ d ∈ StrChars.Road.words, d.before a0 Z = true := fun d hd => hw d ((by decide +kernel : ∀ d ∈ StrChars.Road.words, d ∈ tables_1) d hd)
theorem own_lnil : ∀ c ∈ ([] : List Int32), ¬ c < 0 ∧ ¬ (255 : Int32) < c := fun _ h => nomatch h
theorem own_lcons {a : Int32} {cs : List Int32} (h : ¬ a < 0 ∧ ¬ (255 : Int32) < a) (r : ∀ c ∈ cs, ¬ c < 0 ∧ ¬ (255 : Int32) < c) : ∀ c ∈ a :: cs, ¬ c < 0 ∧ ¬ (255 : Int32) < c := fun c hc => (List.mem_cons.mp hc).elim (fun e => e ▸ h) (r c)
theorem own_lat (y : Int32) (h : 0 ≤ y.toInt ∧ y.toInt ≤ 255) : nar .char y = y ∧ ¬ y < 0 ∧ ¬ (255 : Int32) < y := by
  have c := c_i2c y
  refine ⟨Int32.toInt_inj.mp ?_, ?_, ?_⟩
  · show y.toUInt32.toUInt16.toUInt32.toInt32.toInt = y.toInt
    omega
  · rw [Int32.lt_iff_toInt_lt]; show ¬ y.toInt < 0; omega
  · rw [Int32.lt_iff_toInt_lt]; show ¬ (255 : Int) < y.toInt; omega
theorem own_and255 (x : Int32) : ¬ nar .char ((x &&& (255 : Int32)).toUInt32.toUInt16.toUInt32.toInt32) < 0 ∧ ¬ (255 : Int32) < nar .char ((x &&& (255 : Int32)).toUInt32.toUInt16.toUInt32.toInt32) := by
  have h := c_and x (255 : Int32) (by decide)
  have e := own_lat (x &&& 255) ⟨h.1, h.2⟩
  have e2 : (x &&& (255 : Int32)).toUInt32.toUInt16.toUInt32.toInt32 = x &&& 255 := e.1
  rw [e2, e.1]; exact e.2
theorem own_up {cs : List Int32} (h : ∀ c ∈ cs, ¬ c < 0 ∧ ¬ (255 : Int32) < c) : ∀ c ∈ cs, ¬ c < 0 ∧ ¬ (65535 : Int32) < c := fun c hc => ⟨(h c hc).1, fun q => (h c hc).2 (by rw [Int32.lt_iff_toInt_lt] at q ⊢; have e1 : (65535 : Int32).toInt = 65535 := rfl; have e2 : (255 : Int32).toInt = 255 := rfl; omega)⟩
def own_L (y : Int32) : Prop := 0 ≤ y.toInt ∧ y.toInt ≤ 255
theorem own_i2cL (x : Int32) : own_L ((x &&& (255 : Int32)).toUInt32.toUInt16.toUInt32.toInt32) := by
  have h := c_and x (255 : Int32) (by decide)
  have e2 : (x &&& (255 : Int32)).toUInt32.toUInt16.toUInt32.toInt32 = x &&& 255 := (own_lat (x &&& 255) ⟨h.1, h.2⟩).1
  rw [e2]
  exact h
theorem own_LN {y : Int32} (h : own_L y) : nar .char y = y := (own_lat y h).1
theorem own_LL {y : Int32} (h : own_L y) : ¬ y < 0 ∧ ¬ (255 : Int32) < y := (own_lat y h).2
theorem own_LLN {y : Int32} (h : own_L y) : ¬ nar .char y < 0 ∧ ¬ (255 : Int32) < nar .char y := by rw [own_LN h]; exact own_LL h
theorem own_wEq {Z : State} {a0 : Array Value} (hw : ∀ d ∈ tables_1, d.before a0 Z = true) : ∀ d ∈ StrChars.Road.wordsEq, d.before a0 Z = true := fun d hd => hw d ((by decide +kernel : ∀ d ∈ StrChars.Road.wordsEq, d ∈ tables_1) d hd)
def own_QEq (cs ds : List Int32) (h : Heap) (v : Option Value) (h' : Heap) (L : List Loc) : Prop := ((v = some (.int 1) ∧ cs = ds) ∨ (v = some (.int 0) ∧ ¬ cs = ds)) ∧ L = [] ∧ h' = h
theorem own_eqB {l : Launch} {R : Room} {p : Program} {e : Env} {below : List Frame} {s : State} {args : Array Value} {y : MethodName} {len W : Nat} {P : Pt → Array Value → Prop} {cs ds : List Int32} {h : Heap}
    (B : Back l R p e below s args y len W P (fun P _ v B => ∃ L, (((v = some (.int 1) ∧ cs = ds) ∨ (v = some (.int 0) ∧ ¬ cs = ds)) ∧ L = [] ∧ B.U.heap = h) ∧ B.locs = P.locs ++ L ∧ B.cells = P.cells + 0 ∧ B.slots = P.slots + 0)) :
    Back l R p e below s args y len W P (fun P _ v B => ∃ L, own_QEq cs ds h v B.U.heap L ∧ B.locs = P.locs ++ L ∧ B.cells = P.cells + 0 ∧ B.slots = P.slots + 0) := B
/-! Walks that may intern: what is kept beside the Stand over 's.setVm vm0'. -/
def own_Bk (Z : State) (EL : List (String × Nat)) (s : State) (h0 : Heap) (vm0 : Vm) (H : Heap) : Prop := (∃ k0, s.Since vm0 k0 ∧ k0 ≤ H.size) ∧ CHr Z EL s.vm h0 vm0 H
abbrev own_EndS (Z : State) (EL : List (String × Nat)) (s : State) (Q : Option Value → Heap → List Loc → Prop) (C S : Nat) : Outcome → State → Prop := fun o s₂ => ∃ v L, o = .returned v ∧ Q v s₂.heap L ∧ CHr Z EL s.vm s.heap s₂.vm s₂.heap ∧ ReturnedEndW s o s₂ L C S
section OwnS
variable {p : Program} {l : Launch} {e : Env} {R : Room} {s : State} {m : MethodId} {args : Array Value} {below : List Frame} {meth : Method} {c : Code} {T T' : State} {locs : List Loc} {cells slots : Nat} {P : Outcome → State → Prop} {g g' : JFrame} {Q : Option Value → Heap → List Loc → Prop} {C S : Nat} {Z : State} {EL : List (String × Nat)} {a0 : Array Value} {h0 H H' h : Heap} {vm0 vm1 : Vm} {a : Addr} {sl : Nat} {v : Value} {ws : List Addr}
theorem own_Bk.start (H : CHv Z EL s.vm h0) : own_Bk Z EL s h0 s.vm h0 := ⟨⟨0, (State.WarmedH.refl s).since 0, Nat.zero_le _⟩, CHr.refl H⟩
theorem own_Bk.ch (B : own_Bk Z EL s h0 vm0 H) : CHv Z EL vm0 H := B.2.1
theorem own_Bk.ext (E : Ext H H') (B : own_Bk Z EL s h0 vm0 H) : own_Bk Z EL s h0 vm0 H' := by
  obtain ⟨⟨k, h1, h2⟩, r⟩ := B
  exact ⟨⟨k, h1, Nat.le_trans h2 E.1⟩, r.trans (CHr.ext E r.1)⟩
theorem own_Bk.wr (W : Wr H H' a sl v) (q : Safe Z EL vm0 H a) (B : own_Bk Z EL s h0 vm0 H) : own_Bk Z EL s h0 vm0 H' := by
  obtain ⟨⟨k, h1, h2⟩, r⟩ := B
  exact ⟨⟨k, h1, by rw [W.size]; exact h2⟩, r.trans (CHr.wr W q r.1)⟩
theorem own_Bk.keep (K : Keep H H' ws) (q : ∀ x ∈ ws, Safe Z EL vm0 H x) (B : own_Bk Z EL s h0 vm0 H) : own_Bk Z EL s h0 vm0 H' := by
  obtain ⟨⟨k, h1, h2⟩, r⟩ := B
  exact ⟨⟨k, h1, Nat.le_trans h2 K.1⟩, r.trans (CHr.keep K q r.1)⟩
theorem own_leaveS (X : Stand p l e R (s.setVm vm0) m args below meth c T locs cells slots) (hZ : Z.Warmed39 vm0) (hEL : EW Z a0 EL) (eT : T.heap = H) (h0e : s.heap = h0) (B : own_Bk Z EL s h0 vm0 H) (hlk : meth.locks = false) {v : Option Value} (hv : meth.sig.returnType = none → v = none)
    (k : ∀ fs, (∀ (f : JFrame) (acts : List Action), f.method = m → f.locked = none → f.entered = [] → (doReturn e (T.setTop f) acts v).1 = T.setFrames fs) → Steps p.tables e below (T.setTop g) (T.setFrames fs))
    (hQ : Q v T.heap locs) (hC : cells ≤ C) (hS : slots ≤ S) : own_Go p e below (own_EndS Z EL s Q C S) T g := by
  obtain ⟨⟨k0, b1, b2⟩, r⟩ := B
  obtain ⟨fs, hr, hrun, hended, hW, hsame⟩ := X.leave hv hlk
  have q := b1.ended hW (show k0 ≤ T.heap.size by rw [eT]; exact b2) hsame
  refine ⟨_, _, k fs hr, hrun, hended, _, _, rfl, hQ, ?_, ⟨_, rfl⟩, q.1, q.2.1, q.2.2.mono hC hS⟩
  have z := r.trans (CHv.at X hZ hEL r.1)
  subst eT h0e
  exact z
theorem own_retNS (X : Stand p l e R (s.setVm vm0) m args below meth c T locs cells slots) (hx : p.tables.exec = Jvm.exec) (hlk : meth.locks = false) (hZ : Z.Warmed39 vm0) (hEL : EW Z a0 EL) (eT : T.heap = H) (h0e : s.heap = h0) (B : own_Bk Z EL s h0 vm0 H) {pc : Nat} {Ls : Array Slot} {z : Int32} {t : FieldType} {rest : List Value} (hret : meth.sig.returnType = some t) (ht : t = .boolean ∨ t = .byte ∨ t = .char ∨ t = .short)
    (hd : decode c.code pc = .ok (.ireturn, 1)) (hQ : Q (some (.int (nar t z))) T.heap locs) (hC : cells ≤ C) (hS : slots ≤ S) : own_Go p e below (own_EndS Z EL s Q C S) T (mkF m pc Ls (.int z :: rest)) :=
  own_leaveS X hZ hEL eT h0e B hlk (fun h => by rw [hret] at h; cases h) (fun fs hr => retN X hx hret ht hd hr) hQ hC hS
theorem own_retIS (X : Stand p l e R (s.setVm vm0) m args below meth c T locs cells slots) (hx : p.tables.exec = Jvm.exec) (hlk : meth.locks = false) (hZ : Z.Warmed39 vm0) (hEL : EW Z a0 EL) (eT : T.heap = H) (h0e : s.heap = h0) (B : own_Bk Z EL s h0 vm0 H) {pc : Nat} {Ls : Array Slot} {z : Int32} {rest : List Value} (hret : meth.sig.returnType = some .int)
    (hd : decode c.code pc = .ok (.ireturn, 1)) (hQ : Q (some (.int z)) T.heap locs) (hC : cells ≤ C) (hS : slots ≤ S) : own_Go p e below (own_EndS Z EL s Q C S) T (mkF m pc Ls (.int z :: rest)) :=
  own_leaveS X hZ hEL eT h0e B hlk (fun h => by rw [hret] at h; cases h) (fun fs hr => retOut X hx hret rfl (Or.inl ⟨rfl, Or.inl rfl, z, rfl⟩) hd hr) hQ hC hS
theorem own_retAS (X : Stand p l e R (s.setVm vm0) m args below meth c T locs cells slots) (hx : p.tables.exec = Jvm.exec) (hlk : meth.locks = false) (hZ : Z.Warmed39 vm0) (hEL : EW Z a0 EL) (eT : T.heap = H) (h0e : s.heap = h0) (B : own_Bk Z EL s h0 vm0 H) {pc : Nat} {Ls : Array Slot} {w : Value} {t : FieldType} {rest : List Value} (hret : meth.sig.returnType = some t) (ht : t.isReference = true) (hw : w.isRef = true)
    (hd : decode c.code pc = .ok (.areturn, 1)) (hQ : Q (some w) T.heap locs) (hC : cells ≤ C) (hS : slots ≤ S) : own_Go p e below (own_EndS Z EL s Q C S) T (mkF m pc Ls (w :: rest)) :=
  own_leaveS X hZ hEL eT h0e B hlk (fun h => by rw [hret] at h; cases h) (fun fs hr => retOut X hx hret (own_narrow_ref ht) (Or.inr (Or.inr (Or.inr (Or.inr ⟨rfl, ht, hw⟩)))) hd hr) hQ hC hS
theorem own_ret0S (X : Stand p l e R (s.setVm vm0) m args below meth c T locs cells slots) (hx : p.tables.exec = Jvm.exec) (hlk : meth.locks = false) (hZ : Z.Warmed39 vm0) (hEL : EW Z a0 EL) (eT : T.heap = H) (h0e : s.heap = h0) (B : own_Bk Z EL s h0 vm0 H) {pc : Nat} {Ls : Array Slot} (hret : meth.sig.returnType = none)
    (hd : decode c.code pc = .ok (.return_, 1)) (hQ : Q none T.heap locs) (hC : cells ≤ C) (hS : slots ≤ S) : own_Go p e below (own_EndS Z EL s Q C S) T (mkF m pc Ls []) :=
  own_leaveS X hZ hEL eT h0e B hlk (fun _ => rfl) (fun fs hr => X.returnOut hx hret hd hr) hQ hC hS
theorem own_ldc (X : Stand p l e R (s.setVm vm0) m args below meth c T locs cells slots) (hx : p.tables.exec = Jvm.exec) (hZ : Z.Warmed39 vm0) {own text : String} {index : Nat} (hown : vm0.findClass own = some m.cls) (w : (Cond.stringLink own index text).before a0 Z = true) (wS : ∀ a ∈ Bundle.stringAtoms, a.before a0 Z = true)
    (eT : T.heap = H) (hEL : EW Z a0 EL) (hmem : (own, index) ∈ EL) (B : own_Bk Z EL s h0 vm0 H)
    {vs : List Value} {z : Int32} (ht : (∀ c ∈ text.toList, c.toNat < 256) ∧ text.toList.map (fun c => Value.int (Jvm.Lit.byteI c.toNat.toUInt16)) = vs) (hz : ¬ z < 0) (hl : z.toNatClampNeg = vs.length)
    (hg : g.method = m) (hd : decode c.code g.pc = .ok (.ldc index, 2)) {n : Nat} (hn : 4 * text.toList.length ≤ n) (hbig : n ≤ 536870912) (hc : cells + 2 ≤ R.cells) (hl' : slots + (n + 4) ≤ R.slots) :
    ∃ (a : Addr) (T' : State) (h' : Heap) (b : Addr) (k : ClassId), Stand p l e R (s.setVm T'.vm) m args below meth c T' locs (cells + 2) (slots + (n + 4)) ∧ T'.heap = h' ∧ Ext H h' ∧ Z.Warmed39 T'.vm ∧ T'.vm.findClass own = some m.cls ∧
      Exa Z h' a "java/lang/String" ∧ Fld Z h' a "java/lang/String" "coder" "B" (.int 0) ∧ Fld Z h' a "java/lang/String" "value" "[B" (.ref b) ∧ Arv Z h' b k .byte z vs (.int 0) ∧ CHr Z EL vm0 H T'.vm h' ∧ own_Bk Z EL s h0 T'.vm h' ∧ (∀ x, Safe Z EL T'.vm h' x → x ≠ a ∧ x ≠ b) ∧
      ∀ target, Steps p.tables e below (T'.setTop { g with pc := g.pc + 2, stack := .ref a :: g.stack }) target → Steps p.tables e below (T.setTop g) target := by
  obtain ⟨⟨k0, b1, b2⟩, r⟩ := B
  obtain ⟨a, T', h', k1, b, k, r1, r2, r3, r4, r5, r6, r7, r8, r9, r10, r11, -, -, r14, -, r16, r17⟩ := ldcCH X hx hZ hown w wS eT b1 b2 hEL hmem r.1 ht hz hl hg hd hn hbig hc hl'
  exact ⟨a, T', h', b, k, r1, r2, r3, r6, r7, r8, r9, r10, r11, r14, ⟨⟨k1, r4, r5⟩, r.trans r14⟩, r16, r17⟩
theorem own_callSS (X : Stand p l e R (s.setVm vm0) m args below meth c T locs cells slots) (hx : p.tables.exec = Jvm.exec) {own : String} {index : Nat} {y : MethodName} {bytes : ByteArray} {maxL : Nat} {ret : Option FieldType}
    (hown : (s.setVm vm0).vm.findClass own = some m.cls) (hlink : (Cond.methodLink own index y).before args (s.setVm vm0) = true) (hstat : (Cond.static y).before args (s.setVm vm0) = true) (hinit : (Cond.initialized y.cls).before args (s.setVm vm0) = true)
    (hcode : (Cond.code y bytes maxL ret).before args (s.setVm vm0) = true) (hy : y.cls ≠ "java/lang/invoke/MethodHandle" ∧ y.cls ≠ "java/lang/invoke/VarHandle")
    {W rc rs : Nat} {as' : Array Value} {Qc : Option Value → Heap → List Loc → Prop}
    (hK : BackS l R p e below (s.setVm vm0) args y 3 W (fun A a => a = as' ∧ A.U.heap = h ∧ A.cells + rc ≤ R.cells ∧ A.slots + rs ≤ R.slots) (fun A _ v B => ∃ L, Qc v B.U.heap L ∧ B.locs = A.locs ++ L ∧ B.cells = A.cells + rc ∧ B.slots = A.slots + rs ∧ CHr Z EL vm0 h B.U.vm B.U.heap))
    (hg : g.method = m) (hsize : g.locals.size = c.maxLocals) {argsL rest : List Value} (hlen : ∀ sig, parseMethodDescriptor y.desc = some sig → argsL.length = sig.parameters.length)
    (hstack : g.stack = argsL.reverse ++ rest) (hW : 2 * g.monitorRoom + (rest.map fun v => v.category).sum ≤ W) (hdg : decode c.code g.pc = .ok (.invokestatic index, 3))
    (ha : argsL.toArray = as') (eT : T.heap = h) (hc : cells + rc ≤ R.cells) (hs : slots + rs ≤ R.slots) (hZ : Z.Warmed39 vm0) (B : own_Bk Z EL s h0 vm0 h)
    (k : ∀ v T' L, Stand p l e R (s.setVm T'.vm) m args below meth c T' (locs ++ L) (cells + rc) (slots + rs) → Qc v T'.heap L → CHr Z EL vm0 h T'.vm T'.heap → own_Bk Z EL s h0 T'.vm T'.heap → Z.Warmed39 T'.vm → T'.vm.findClass own = some m.cls → own_Go p e below P T' { g with pc := g.pc + 3, stack := v.toList ++ rest }) : own_Go p e below P T g := by
  obtain ⟨v, vm₁, ⟨T', L', k', n'⟩, -, X', hS', hgr, ⟨L, hQ, l1, y1, z1, hC⟩, st⟩ := callSS X hx hown hlink hstat hinit hcode hy hK hg hsize hlen hstack hW hdg (fun _ _ => ⟨ha, eT, hc, hs⟩)
  dsimp only [Pt.U, Pt.locs, Pt.cells, Pt.slots] at X' l1 y1 z1 st hQ hS' hgr hC
  subst l1 y1 z1
  obtain ⟨⟨k0, b1, b2⟩, r⟩ := B
  have hS2 := foldS b1 (show k0 ≤ T.heap.size by rw [eT]; exact b2) hS' hgr
  exact own_st (fun t k => st.trans k) (k v T' L X' hQ hC ⟨⟨_, hS2, Nat.le_refl _⟩, r.trans hC⟩ (State.Warmed39.trans (t := s.setVm vm0) hZ hS'.1) (by rw [hS'.1.alike.findClass]; exact hown))
theorem own_callNS (X : Stand p l e R (s.setVm vm0) m args below meth c T locs cells slots) (hx : p.tables.exec = Jvm.exec) {own : String} {index : Nat} {y : MethodName} {bytes : ByteArray} {maxL : Nat} (hy1 : y.name = "<init>")
    (hown : (s.setVm vm0).vm.findClass own = some m.cls) (hlink : (Cond.methodLink own index y).before args (s.setVm vm0) = true) (hinst : (Cond.instanceMethod y).before args (s.setVm vm0) = true)
    (hcode : (Cond.code y bytes maxL none).before args (s.setVm vm0) = true) (hy : y.cls ≠ "java/lang/invoke/MethodHandle" ∧ y.cls ≠ "java/lang/invoke/VarHandle")
    {W rc rs : Nat} {as' : Array Value} {Qc : Option Value → Heap → List Loc → Prop}
    (hK : BackS l R p e below (s.setVm vm0) args y 3 W (fun A a => a = as' ∧ A.U.heap = h ∧ A.cells + rc ≤ R.cells ∧ A.slots + rs ≤ R.slots) (fun A _ v B => ∃ L, Qc v B.U.heap L ∧ B.locs = A.locs ++ L ∧ B.cells = A.cells + rc ∧ B.slots = A.slots + rs ∧ CHr Z EL vm0 h B.U.vm B.U.heap))
    {a : Addr} (hg : g.method = m) (hsize : g.locals.size = c.maxLocals) {argsL rest : List Value} (hlen : ∀ sig, parseMethodDescriptor y.desc = some sig → argsL.length = sig.parameters.length)
    (hstack : g.stack = argsL.reverse ++ .ref a :: rest) (hW : 2 * g.monitorRoom + (rest.map fun v => v.category).sum ≤ W) (hdg : decode c.code g.pc = .ok (.invokespecial index, 3))
    (ha : (Value.ref a :: argsL).toArray = as') (eT : T.heap = h) (hc : cells + rc ≤ R.cells) (hs : slots + rs ≤ R.slots) (hZ : Z.Warmed39 vm0) (B : own_Bk Z EL s h0 vm0 h)
    (k : ∀ v T' L, Stand p l e R (s.setVm T'.vm) m args below meth c T' (locs ++ L) (cells + rc) (slots + rs) → Qc v T'.heap L → CHr Z EL vm0 h T'.vm T'.heap → own_Bk Z EL s h0 T'.vm T'.heap → Z.Warmed39 T'.vm → T'.vm.findClass own = some m.cls → own_Go p e below P T' { g with pc := g.pc + 3, stack := v.toList ++ rest }) : own_Go p e below P T g := by
  obtain ⟨v, vm₁, ⟨T', L', k', n'⟩, -, X', hS', hgr, ⟨L, hQ, l1, y1, z1, hC⟩, st⟩ := X.specialBackS hx hy1 hown hlink hinst hcode hy hK hg hsize (Steps.refl _) hlen hstack hW hdg (fun _ _ => ⟨ha, eT, hc, hs⟩)
  dsimp only [Pt.U, Pt.locs, Pt.cells, Pt.slots] at X' l1 y1 z1 st hQ hS' hgr hC
  subst l1 y1 z1
  obtain ⟨⟨k0, b1, b2⟩, r⟩ := B
  have hS2 := foldS b1 (show k0 ≤ T.heap.size by rw [eT]; exact b2) hS' hgr
  exact own_st (fun t k => st.trans k) (k v T' L X' hQ hC ⟨⟨_, hS2, Nat.le_refl _⟩, r.trans hC⟩ (State.Warmed39.trans (t := s.setVm vm0) hZ hS'.1) (by rw [hS'.1.alike.findClass]; exact hown))
theorem own_callVS (X : Stand p l e R (s.setVm vm0) m args below meth c T locs cells slots) (hx : p.tables.exec = Jvm.exec) {own Cn : String} {index : Nat} {y z : MethodName}
    (hown : (s.setVm vm0).vm.findClass own = some m.cls) (hlink : (Cond.methodLink own index y).before args (s.setVm vm0) = true) (hdecl : (Cond.declares y).before args (s.setVm vm0) = true) (hnf : NotFace (s.setVm vm0) y)
    (hsel : (Cond.selects Cn y z).before args (s.setVm vm0) = true) (hinst : (Cond.instanceMethod z).before args (s.setVm vm0) = true)
    (hy : y.cls ≠ "java/lang/invoke/MethodHandle" ∧ y.cls ≠ "java/lang/invoke/VarHandle")
    {W rc rs : Nat} {as' : Array Value} {Qc : Option Value → Heap → List Loc → Prop}
    (hK : BackS l R p e below (s.setVm vm0) args z 3 W (fun A a => a = as' ∧ A.U.heap = h ∧ A.cells + rc ≤ R.cells ∧ A.slots + rs ≤ R.slots) (fun A _ v B => ∃ L, Qc v B.U.heap L ∧ B.locs = A.locs ++ L ∧ B.cells = A.cells + rc ∧ B.slots = A.slots + rs ∧ CHr Z EL vm0 h B.U.vm B.U.heap))
    {a : Addr} {cB : ClassId} (hcB : (s.setVm vm0).vm.findClass Cn = some cB) (hrecv : IsOf cB T a)
    (hg : g.method = m) (hsize : g.locals.size = c.maxLocals) {argsL rest : List Value} (hlen : ∀ sig, parseMethodDescriptor y.desc = some sig → argsL.length = sig.parameters.length)
    (hstack : g.stack = argsL.reverse ++ .ref a :: rest) (hW : 2 * g.monitorRoom + (rest.map fun v => v.category).sum ≤ W) (hdg : decode c.code g.pc = .ok (.invokevirtual index, 3))
    (ha : (Value.ref a :: argsL).toArray = as') (eT : T.heap = h) (hc : cells + rc ≤ R.cells) (hs : slots + rs ≤ R.slots) (hZ : Z.Warmed39 vm0) (B : own_Bk Z EL s h0 vm0 h)
    (k : ∀ v T' L, Stand p l e R (s.setVm T'.vm) m args below meth c T' (locs ++ L) (cells + rc) (slots + rs) → Qc v T'.heap L → CHr Z EL vm0 h T'.vm T'.heap → own_Bk Z EL s h0 T'.vm T'.heap → Z.Warmed39 T'.vm → T'.vm.findClass own = some m.cls → own_Go p e below P T' { g with pc := g.pc + 3, stack := v.toList ++ rest }) : own_Go p e below P T g := by
  obtain ⟨v, vm₁, ⟨T', L', k', n'⟩, -, X', hS', hgr, ⟨L, hQ, l1, y1, z1, hC⟩, st⟩ := X.virtualBackS hx hown hlink hdecl hnf hsel hinst hy hK hcB hrecv hg hsize (Steps.refl _) hlen hstack hW hdg (fun _ _ => ⟨ha, eT, hc, hs⟩)
  dsimp only [Pt.U, Pt.locs, Pt.cells, Pt.slots] at X' l1 y1 z1 st hQ hS' hgr hC
  subst l1 y1 z1
  obtain ⟨⟨k0, b1, b2⟩, r⟩ := B
  have hS2 := foldS b1 (show k0 ≤ T.heap.size by rw [eT]; exact b2) hS' hgr
  exact own_st (fun t k => st.trans k) (k v T' L X' hQ hC ⟨⟨_, hS2, Nat.le_refl _⟩, r.trans hC⟩ (State.Warmed39.trans (t := s.setVm vm0) hZ hS'.1) (by rw [hS'.1.alike.findClass]; exact hown))
end OwnS

theorem own_EL {Z : State} {a0 : Array Value} (hw : ∀ d ∈ tables_1, d.before a0 Z = true) : EW Z a0 consts_1 := (EW.cons (hw _ (List.mem_of_getElem? (i := 46) rfl)) (by decide) EW.nil)
theorem own_wS {Z : State} {a0 : Array Value} (hw : ∀ d ∈ tables_1, d.before a0 Z = true) : ∀ a ∈ Bundle.stringAtoms, a.before a0 Z = true := fun d hd => hw d ((by decide +kernel : ∀ d ∈ Bundle.stringAtoms, d ∈ tables_1) d hd)
theorem own_safeNull {Z : State} {EL : List (String × Nat)} {vm : Vm} {h : Heap} {x : Addr} (hal : Z.vm.Alike vm) (E : Exa Z h x "java/lang/String") (F : Fld Z h x "java/lang/String" "value" "[B" .null) : Safe Z EL vm h x := fun B => by
  obtain ⟨cell, cf, k, i, f, f1, f2, -, -, -, -, f7⟩ := F
  obtain ⟨cell', k', e1, e2, e3, -, -⟩ := E
  cases f1.symm.trans e1
  obtain ⟨p, -, u, a, -, q, -, F', rfl | rfl⟩ := B
  · cases (show h[q.sa]? = some q.sC from F'.ha).symm.trans f1
    obtain ⟨cS, ⟨⟨s1, s2, s3, ⟨cv, kv, iv, s4, s4'⟩, s5, s6, s7, s8, s9⟩, -, -⟩, -⟩ := F'
    obtain ⟨kv', z4⟩ := ff_back (U := Wst Z vm h) hal s4
    cases f2.symm.trans z4
    rw [f7] at s8
    cases s8
  · cases (show h[q.sd]? = some q.SA from F'.hd).symm.trans f1
    obtain ⟨cS, -, -, g, -⟩ := F'
    have g' : vm.findClass "[B" = some q.SA.cls := g
    rw [hal.findClass] at g'
    obtain ⟨k1, q1, q2⟩ := Vm.findClass_spec g'
    obtain ⟨k2, q3, q4⟩ := Vm.findClass_spec e2
    cases q1.symm.trans q3
    exact absurd (q2.symm.trans q4) (by decide)
theorem own_arvNe {Z : State} {h : Heap} {a b : Addr} {k k' : ClassId} {t t' : FieldType} {z z' : Int32} {vs vs' : List Value} {d d' : Value} (A : Arv Z h a k t z vs d) (B : Arv Z h b k' t' z' vs' d') (hn : t ≠ t') : a ≠ b := fun e => by
  subst e
  obtain ⟨c, ⟨a1, ⟨-, ka, a2, ca, a3⟩, -⟩, -⟩ := A
  obtain ⟨c', ⟨b1, ⟨-, kb, b2, cb, b3⟩, -⟩, -⟩ := B
  cases a1.symm.trans b1
  cases a2.symm.trans b2
  have e := a3.symm.trans b3
  injection e with _ e2
  exact hn e2
def QE (Z : State) (x : Addr) (h0 : Heap) (n0 : Nat) (v : Option Value) (h : Heap) (L : List Loc) : Prop := v = none ∧ Fr n0 L ∧ Keep h0 h [x] ∧ Exa Z h x "java/lang/String" ∧ Fld Z h x "java/lang/String" "coder" "B" (.int 0) ∧ ∃ (t : Addr) (kb : ClassId), ¬ t = x ∧ Fld Z h x "java/lang/String" "value" "[B" (.ref t) ∧ Arv Z h t kb .byte (0 : Int32) [] (.int 0)
theorem d1_0 : decode jdk_42_method_149_code 0 = .ok (.aload_n 0, 1) := by decide +kernel
theorem d1_1 : decode jdk_42_method_149_code 1 = .ok (.invokespecial 1, 3) := by decide +kernel
theorem d1_4 : decode jdk_42_method_149_code 4 = .ok (.iload_n 3, 1) := by decide +kernel
theorem d1_5 : decode jdk_42_method_149_code 5 = .ok (.ifCond .ne 22, 3) := by decide +kernel
theorem d1_8 : decode jdk_42_method_149_code 8 = .ok (.aload_n 0, 1) := by decide +kernel
theorem d1_9 : decode jdk_42_method_149_code 9 = .ok (.ldc 7, 2) := by decide +kernel
theorem d1_11 : decode jdk_42_method_149_code 11 = .ok (.getfield 9, 3) := by decide +kernel
theorem d1_14 : decode jdk_42_method_149_code 14 = .ok (.putfield 9, 3) := by decide +kernel
theorem d1_17 : decode jdk_42_method_149_code 17 = .ok (.aload_n 0, 1) := by decide +kernel
theorem d1_18 : decode jdk_42_method_149_code 18 = .ok (.ldc 7, 2) := by decide +kernel
theorem d1_20 : decode jdk_42_method_149_code 20 = .ok (.getfield 15, 3) := by decide +kernel
theorem d1_23 : decode jdk_42_method_149_code 23 = .ok (.putfield 15, 3) := by decide +kernel
theorem d1_26 : decode jdk_42_method_149_code 26 = .ok (.return_, 1) := by decide +kernel
theorem pn_0 : plainName "java/lang/String" = true := by first | (simp [plainName, overriddenIn]; done) | decide +kernel
theorem ef_rmE1 (m : MethodId) (x0 : Addr) (x1 : Addr) (x2 : Int32) (x3 : Int32) : entryFrame m #[(.ref x0), (.ref x1), (.int x2), (.int x3), .null] 6 = mkF m 0 #[.val (.ref x0), .val (.ref x1), .val (.int x2), .val (.int x3), .val .null, .unset] [] := by first | (simp [entryFrame, mkF, argsToLocals, Value.category]; done) | rfl
set_option maxRecDepth 65536 in
set_option maxHeartbeats 40000000 in
theorem rmE1 (l : Launch) (Z : State) (a0 : Array Value) (hw : ∀ d ∈ tables_1, d.before a0 Z = true) (ws : List Jvm.Cond) (x b : Addr) (h0 : Heap) (n0 : Nat) (Z0 : n0 ≤ h0.size) (g_x : n0 ≤ x) (Ex : Exa Z h0 x "java/lang/String") (Fv : Fld Z h0 x "java/lang/String" "value" "[B" .null) (Fc : Fld Z h0 x "java/lang/String" "coder" "B" (.int (0 : Int32))) :
    MetFree l (⟨"java/lang/String", "<init>", "([CIILjava/lang/Void;)V"⟩ : MethodName) (head1 (Jvm.Cond.code (⟨"java/lang/String", "<init>", "([CIILjava/lang/Void;)V"⟩ : MethodName) jdk_42_method_149_code 6 none :: ws) ({ frames := 1, cells := 4, slots := 8, locals := 12 } : Room)) (fun a_ U_ => a_ = #[(.ref x), (.ref b), (.int (0 : Int32)), (.int (0 : Int32)), .null] ∧ Z.Warmed39 U_.vm ∧ U_.heap = h0 ∧ CHv Z consts_1 U_.vm h0) (fun _ _ _ _ _ => True) (fun _ U_ o_ U'_ => ∃ v_ L_, o_ = .returned v_ ∧ QE Z x h0 n0 v_ U'_.heap L_ ∧ CHr Z consts_1 U_.vm U_.heap U'_.vm U'_.heap ∧ ReturnedEndW U_ o_ U'_ L_ ({ frames := 1, cells := 4, slots := 8, locals := 12 } : Room).cells ({ frames := 1, cells := 4, slots := 8, locals := 12 } : Room).slots) := by
  refine MetFree.of_bodySF (plainFor_of_name pn_0) hisR ?_
  intro p e s m args below meth c s₁ Bd hml0 hP hK
  obtain ⟨rfl, hZ, hh, hC0⟩ := hP
  have hx := Bd.exec
  have hby := Bd.bytes
  have hml : c.maxLocals = 6 := hml0
  have hown : s.vm.findClass "java/lang/String" = some m.cls := findClass_of_methodNamed Bd.named
  have hnm := (name_of_methodNamed Bd.named Bd.method).1
  have hlk := BodyLoose.notSynchronized Bd
  have X0 : Stand p l e ({ frames := 1, cells := 4, slots := 8, locals := 12 } : Room) (s.setVm s.vm) m #[(.ref x), (.ref b), (.int (0 : Int32)), (.int (0 : Int32)), .null] below meth c s₁ [] 0 0 := Stand.of_body Bd
  have e0 : s₁.heap = h0 := by rw [← hh, Bd.state]; rfl
  have N0 := Fr.nil n0
  have hEL := own_EL hw
  have B0 : own_Bk Z consts_1 s h0 s.vm h0 := own_Bk.start hC0
  refine own_entry (P := own_EndS Z consts_1 s (QE Z x h0 n0) ({ frames := 1, cells := 4, slots := 8, locals := 12 } : Room).cells ({ frames := 1, cells := 4, slots := 8, locals := 12 } : Room).slots) (ef_rmE1 m x b (0 : Int32) (0 : Int32)) ?_
  show own_Go p e below _ s₁ (mkF m 0 #[.val (.ref x), .val (.ref b), .val (.int (0 : Int32)), .val (.int (0 : Int32)), .val .null, .unset] [])
  have Sfx := own_safeNull (EL := consts_1) hZ.alike Ex Fv
  refine own_st (fun t_ k_ => XS.aloadN X0.here hx rfl (hb hby d1_0) rfl rfl k_) ?_
  show own_Go p e below _ s₁ (mkF m 1 #[.val (.ref x), .val (.ref b), .val (.int (0 : Int32)), .val (.int (0 : Int32)), .val .null, .unset] [(.ref x)])
  obtain ⟨T1, X1, e1, st1⟩ := initO X0 hx hZ hown (hw _ (List.mem_of_getElem? (i := 27) rfl)) (hw _ (List.mem_of_getElem? (i := 28) rfl)) (hw _ (List.mem_of_getElem? (i := 29) rfl)) e0 (g := (mkF m 1 #[.val (.ref x), .val (.ref b), .val (.int (0 : Int32)), .val (.int (0 : Int32)), .val .null, .unset] [(.ref x)])) rfl (by rw [hml]; rfl) rfl (hb hby d1_1) (by decide) (W := 0) (by show 2 * 0 + _ ≤ _; exact Nat.le_of_eq rfl) (by decide)
  refine own_st st1 ?_
  show own_Go p e below _ T1 (mkF m 4 #[.val (.ref x), .val (.ref b), .val (.int (0 : Int32)), .val (.int (0 : Int32)), .val .null, .unset] [])
  refine own_st (fun t_ k_ => XS.iloadN X1.here hx rfl (hb hby d1_4) rfl k_) ?_
  show own_Go p e below _ T1 (mkF m 5 #[.val (.ref x), .val (.ref b), .val (.int (0 : Int32)), .val (.int (0 : Int32)), .val .null, .unset] [(.int (0 : Int32))])
  refine own_st (fun t_ k_ => XS.ifNo X1.here hx rfl (hb hby d1_5) rfl (by decide) k_) ?_
  show own_Go p e below _ T1 (mkF m 8 #[.val (.ref x), .val (.ref b), .val (.int (0 : Int32)), .val (.int (0 : Int32)), .val .null, .unset] [])
  refine own_st (fun t_ k_ => XS.aloadN X1.here hx rfl (hb hby d1_8) rfl rfl k_) ?_
  show own_Go p e below _ T1 (mkF m 9 #[.val (.ref x), .val (.ref b), .val (.int (0 : Int32)), .val (.int (0 : Int32)), .val .null, .unset] [(.ref x)])
  obtain ⟨la2, T2, h2, lb2, kb2, X2, e2, E2, hZ, hown, Ex2, Cd2, Vl2, Ar2, CH2, B2, ns2, st2⟩ := own_ldc X1 hx hZ hown (hw _ (List.mem_of_getElem? (i := 46) rfl)) (own_wS hw) e1 hEL (by decide) B0 (vs := []) (z := (0 : Int32)) ⟨by decide, rfl⟩ (by decide) rfl (g := (mkF m 9 #[.val (.ref x), .val (.ref b), .val (.int (0 : Int32)), .val (.int (0 : Int32)), .val .null, .unset] [(.ref x)])) rfl (hb hby d1_9) (n := 0) (by decide) (by decide) (by decide) (by decide)
  refine own_st st2 ?_
  have K2 : Keep h0 h2 [x] := (Keep.refl h0 [x]).ext E2
  show own_Go p e below _ T2 (mkF m 11 #[.val (.ref x), .val (.ref b), .val (.int (0 : Int32)), .val (.int (0 : Int32)), .val .null, .unset] [(.ref la2), (.ref x)])
  obtain ⟨T3, X3, e3, st3⟩ := getF X2 hx hZ hown (host := "") (Or.inl (hw _ (List.mem_of_getElem? (i := 30) rfl))) Via.refl e2 Vl2 (g := (mkF m 11 #[.val (.ref x), .val (.ref b), .val (.int (0 : Int32)), .val (.int (0 : Int32)), .val .null, .unset] [(.ref la2), (.ref x)])) rfl rfl (hb hby d1_11)
  refine own_st st3 ?_
  show own_Go p e below _ T3 (mkF m 14 #[.val (.ref x), .val (.ref b), .val (.int (0 : Int32)), .val (.int (0 : Int32)), .val .null, .unset] [(.ref lb2), (.ref x)])
  have f5 := (Fld.ext E2 Fv)
  have f6 := (Exa.ext E2 Ex)
  obtain ⟨T4, h4, X4, e4, W4, st4⟩ := putF X3 hx hZ hown (host := "") (Or.inl (hw _ (List.mem_of_getElem? (i := 30) rfl))) Via.refl e3 f5 f6 (Or.inr ⟨(hw _ (List.mem_of_getElem? (i := 31) rfl)), rfl, hnm⟩) (hw _ (List.mem_of_getElem? (i := 18) rfl)) (ty := (.array .byte)) (by decide) rfl rfl (g := (mkF m 14 #[.val (.ref x), .val (.ref b), .val (.int (0 : Int32)), .val (.int (0 : Int32)), .val .null, .unset] [(.ref lb2), (.ref x)])) rfl rfl (hb hby d1_14)
  refine own_st st4 ?_
  have f7 := (CHr.safe CH2 Ex.lt Sfx)
  have Sw4 := f7
  have B4 := own_Bk.wr W4 Sw4 B2
  have N4 := Fr.snoc X4 N0 g_x
  have K4 : Keep h0 h4 [x] := K2.wr W4 (Or.inl (List.mem_of_getElem? (i := 0) rfl))
  have Fw4 := Fld.same W4 f5
  show own_Go p e below _ T4 (mkF m 17 #[.val (.ref x), .val (.ref b), .val (.int (0 : Int32)), .val (.int (0 : Int32)), .val .null, .unset] [])
  refine own_st (fun t_ k_ => XS.aloadN X4.here hx rfl (hb hby d1_17) rfl rfl k_) ?_
  show own_Go p e below _ T4 (mkF m 18 #[.val (.ref x), .val (.ref b), .val (.int (0 : Int32)), .val (.int (0 : Int32)), .val .null, .unset] [(.ref x)])
  have f9 := (Safe.wr W4 Sw4 (own_Bk.ch B2) f7)
  obtain ⟨la8, T8, h8, lb8, kb8, X8, e8, E8, hZ, hown, Ex8, Cd8, Vl8, Ar8, CH8, B8, ns8, st8⟩ := own_ldc X4 hx hZ hown (hw _ (List.mem_of_getElem? (i := 46) rfl)) (own_wS hw) e4 hEL (by decide) B4 (vs := []) (z := (0 : Int32)) ⟨by decide, rfl⟩ (by decide) rfl (g := (mkF m 18 #[.val (.ref x), .val (.ref b), .val (.int (0 : Int32)), .val (.int (0 : Int32)), .val .null, .unset] [(.ref x)])) rfl (hb hby d1_18) (n := 0) (by decide) (by decide) (by decide) (by decide)
  refine own_st st8 ?_
  have K8 : Keep h0 h8 [x] := K4.ext E8
  show own_Go p e below _ T8 (mkF m 20 #[.val (.ref x), .val (.ref b), .val (.int (0 : Int32)), .val (.int (0 : Int32)), .val .null, .unset] [(.ref la8), (.ref x)])
  obtain ⟨T10, X10, e10, st10⟩ := getF X8 hx hZ hown (host := "") (Or.inl (hw _ (List.mem_of_getElem? (i := 32) rfl))) Via.refl e8 Cd8 (g := (mkF m 20 #[.val (.ref x), .val (.ref b), .val (.int (0 : Int32)), .val (.int (0 : Int32)), .val .null, .unset] [(.ref la8), (.ref x)])) rfl rfl (hb hby d1_20)
  refine own_st st10 ?_
  show own_Go p e below _ T10 (mkF m 23 #[.val (.ref x), .val (.ref b), .val (.int (0 : Int32)), .val (.int (0 : Int32)), .val .null, .unset] [(.int (0 : Int32)), (.ref x)])
  have f12 := (Fld.ext E2 Fc)
  have f13 := (Fld.other W4 f12 (Or.inr (slot_ne (Or.inr (hw _ (List.mem_of_getElem? (i := 33) rfl))) (Or.inr (hw _ (List.mem_of_getElem? (i := 31) rfl))) (by decide) (t := .byte) (t' := (.array .byte)) (by decide) (by decide))))
  have f14 := (Fld.ext E8 f13)
  have f15 := (Exa.wr W4 f6)
  have f16 := (Exa.ext E8 f15)
  obtain ⟨T11, h11, X11, e11, W11, st11⟩ := putFN X10 hx hZ hown (hw _ (List.mem_of_getElem? (i := 32) rfl)) Via.refl e10 f14 f16 (Or.inr ⟨(hw _ (List.mem_of_getElem? (i := 33) rfl)), rfl, hnm⟩) (hw _ (List.mem_of_getElem? (i := 18) rfl)) (ty := .byte) (v' := (.int (0 : Int32))) (by decide) rfl (by decide) (g := (mkF m 23 #[.val (.ref x), .val (.ref b), .val (.int (0 : Int32)), .val (.int (0 : Int32)), .val .null, .unset] [(.int (0 : Int32)), (.ref x)])) rfl rfl (hb hby d1_23)
  refine own_st st11 ?_
  have f17 := (CHr.safe CH8 f15.lt f9)
  have Sw11 := f17
  have B11 := own_Bk.wr W11 Sw11 B8
  have N11 := Fr.snoc X11 N4 g_x
  have K11 : Keep h0 h11 [x] := K8.wr W11 (Or.inl (List.mem_of_getElem? (i := 0) rfl))
  have Fw11 := Fld.same W11 f14
  show own_Go p e below _ T11 (mkF m 26 #[.val (.ref x), .val (.ref b), .val (.int (0 : Int32)), .val (.int (0 : Int32)), .val .null, .unset] [])
  have f18 := (Fld.ext E8 Fw4)
  have f19 := (Fld.other W11 f18 (Or.inr (slot_ne (Or.inr (hw _ (List.mem_of_getElem? (i := 31) rfl))) (Or.inr (hw _ (List.mem_of_getElem? (i := 33) rfl))) (by decide) (t := (.array .byte)) (t' := .byte) (by decide) (by decide))))
  have f20 := (Exa.wr W11 f16)
  have ne21 : x ≠ lb2 := (ns2 _ f7).2
  have f22 := (Ar2.other W4 (Ne.symm ne21))
  have f23 := (f22.ext E8)
  have f24 := (f23.other W11 (Ne.symm ne21))
  refine own_ret0S X11 hx hlk hZ hEL e11 hh B11 Bd.returns (hb hby d1_26) ?_ (by decide) (by decide)
  show QE Z x h0 n0 _ T11.heap _
  rw [e11]
  exact ⟨rfl, N11, K11, f20, Fw11, lb2, _, (Ne.symm ne21), f19, f24⟩
theorem d2_0 : decode jdk_42_method_3_code 0 = .ok (.aload_n 0, 1) := by decide +kernel
theorem d2_1 : decode jdk_42_method_3_code 1 = .ok (.aload_n 1, 1) := by decide +kernel
theorem d2_2 : decode jdk_42_method_3_code 2 = .ok (.iconst 0, 1) := by decide +kernel
theorem d2_3 : decode jdk_42_method_3_code 3 = .ok (.aload_n 1, 1) := by decide +kernel
theorem d2_4 : decode jdk_42_method_3_code 4 = .ok (.arraylength, 1) := by decide +kernel
theorem d2_5 : decode jdk_42_method_3_code 5 = .ok (.aconst_null, 1) := by decide +kernel
theorem d2_6 : decode jdk_42_method_3_code 6 = .ok (.invokespecial 27, 3) := by decide +kernel
theorem pd_0 : parseMethodDescriptor "([CIILjava/lang/Void;)V" = some ⟨[(.array .char), .int, .int, (.object "java/lang/Void")], none⟩ := by decide +kernel
theorem d2_9 : decode jdk_42_method_3_code 9 = .ok (.return_, 1) := by decide +kernel
theorem ef_rmE0 (m : MethodId) (x0 : Addr) (x1 : Addr) : entryFrame m #[(.ref x0), (.ref x1)] 2 = mkF m 0 #[.val (.ref x0), .val (.ref x1)] [] := by first | (simp [entryFrame, mkF, argsToLocals, Value.category]; done) | rfl
set_option maxRecDepth 65536 in
set_option maxHeartbeats 40000000 in
theorem rmE0 (l : Launch) (Z : State) (a0 : Array Value) (hw : ∀ d ∈ tables_1, d.before a0 Z = true) (ws : List Jvm.Cond) (x b : Addr) (kc : ClassId) (h0 : Heap) (n0 : Nat) (Z0 : n0 ≤ h0.size) (g_x : n0 ≤ x) (Ex : Exa Z h0 x "java/lang/String") (Fv : Fld Z h0 x "java/lang/String" "value" "[B" .null) (Fc : Fld Z h0 x "java/lang/String" "coder" "B" (.int (0 : Int32))) (Ab : Arv Z h0 b kc .char (0 : Int32) [] (.int (0 : Int32))) :
    MetFree l (⟨"java/lang/String", "<init>", "([C)V"⟩ : MethodName) (head1 (Jvm.Cond.code (⟨"java/lang/String", "<init>", "([C)V"⟩ : MethodName) jdk_42_method_3_code 2 none :: ws) ({ frames := 2, cells := 4, slots := 8, locals := 29 } : Room)) (fun a_ U_ => a_ = #[(.ref x), (.ref b)] ∧ Z.Warmed39 U_.vm ∧ U_.heap = h0 ∧ CHv Z consts_1 U_.vm h0) (fun _ _ _ _ _ => True) (fun _ U_ o_ U'_ => ∃ v_ L_, o_ = .returned v_ ∧ QE Z x h0 n0 v_ U'_.heap L_ ∧ CHr Z consts_1 U_.vm U_.heap U'_.vm U'_.heap ∧ ReturnedEndW U_ o_ U'_ L_ ({ frames := 2, cells := 4, slots := 8, locals := 29 } : Room).cells ({ frames := 2, cells := 4, slots := 8, locals := 29 } : Room).slots) := by
  refine MetFree.of_bodySF (plainFor_of_name pn_0) hisR ?_
  intro p e s m args below meth c s₁ Bd hml0 hP hK
  obtain ⟨rfl, hZ, hh, hC0⟩ := hP
  have hx := Bd.exec
  have hby := Bd.bytes
  have hml : c.maxLocals = 2 := hml0
  have hown : s.vm.findClass "java/lang/String" = some m.cls := findClass_of_methodNamed Bd.named
  have hnm := (name_of_methodNamed Bd.named Bd.method).1
  have hlk := BodyLoose.notSynchronized Bd
  have X0 : Stand p l e ({ frames := 2, cells := 4, slots := 8, locals := 29 } : Room) (s.setVm s.vm) m #[(.ref x), (.ref b)] below meth c s₁ [] 0 0 := Stand.of_body Bd
  have e0 : s₁.heap = h0 := by rw [← hh, Bd.state]; rfl
  have N0 := Fr.nil n0
  have hEL := own_EL hw
  have B0 : own_Bk Z consts_1 s h0 s.vm h0 := own_Bk.start hC0
  refine own_entry (P := own_EndS Z consts_1 s (QE Z x h0 n0) ({ frames := 2, cells := 4, slots := 8, locals := 29 } : Room).cells ({ frames := 2, cells := 4, slots := 8, locals := 29 } : Room).slots) (ef_rmE0 m x b) ?_
  show own_Go p e below _ s₁ (mkF m 0 #[.val (.ref x), .val (.ref b)] [])
  have Sfx := own_safeNull (EL := consts_1) hZ.alike Ex Fv
  refine own_st (fun t_ k_ => XS.aloadN X0.here hx rfl (hb hby d2_0) rfl rfl k_) ?_
  show own_Go p e below _ s₁ (mkF m 1 #[.val (.ref x), .val (.ref b)] [(.ref x)])
  refine own_st (fun t_ k_ => XS.aloadN X0.here hx rfl (hb hby d2_1) rfl rfl k_) ?_
  show own_Go p e below _ s₁ (mkF m 2 #[.val (.ref x), .val (.ref b)] [(.ref b), (.ref x)])
  refine own_st (fun t_ k_ => XS.iconst X0.here hx rfl (hb hby d2_2) k_) ?_
  show own_Go p e below _ s₁ (mkF m 3 #[.val (.ref x), .val (.ref b)] [(.int (0 : Int32)), (.ref b), (.ref x)])
  refine own_st (fun t_ k_ => XS.aloadN X0.here hx rfl (hb hby d2_3) rfl rfl k_) ?_
  show own_Go p e below _ s₁ (mkF m 4 #[.val (.ref x), .val (.ref b)] [(.ref b), (.int (0 : Int32)), (.ref b), (.ref x)])
  obtain ⟨cl1, Ar1, -, S1, N1', -, -⟩ := Ab
  refine own_st (fun t_ k_ => X0.arraylength hx (by rw [e0]; exact Ar1.1) (State.isArrayOf_alike hZ.alike Ar1.2.1) (g := (mkF m 4 #[.val (.ref x), .val (.ref b)] [(.ref b), (.int (0 : Int32)), (.ref b), (.ref x)])) rfl rfl (hb hby d2_4) t_ k_) ?_
  rw [len_of S1 N1']
  show own_Go p e below _ s₁ (mkF m 5 #[.val (.ref x), .val (.ref b)] [(.int (0 : Int32)), (.int (0 : Int32)), (.ref b), (.ref x)])
  refine own_st (fun t_ k_ => XS.aconstNull X0.here hx rfl (hb hby d2_5) k_) ?_
  show own_Go p e below _ s₁ (mkF m 6 #[.val (.ref x), .val (.ref b)] [.null, (.int (0 : Int32)), (.int (0 : Int32)), (.ref b), (.ref x)])
  refine own_callNS X0 hx (y := (⟨"java/lang/String", "<init>", "([CIILjava/lang/Void;)V"⟩ : MethodName)) rfl hown (mvT hZ (hw _ (List.mem_of_getElem? (i := 43) rfl))) (mvT hZ (hw _ (List.mem_of_getElem? (i := 44) rfl))) (mvT hZ (hw _ (List.mem_of_getElem? (i := 45) rfl))) (by decide) (backOfSH (W := 0) (rmE1 l Z a0 hw [] x b h0 n0 (Nat.le_trans Z0 (Keep.refl h0 [x]).1) g_x Ex Fv Fc) hZ (hw _ (List.mem_of_getElem? (i := 45) rfl)) (hw _ (List.mem_of_getElem? (i := 10) rfl)) (by decide) (by decide) hEL (own_Bk.ch B0)) (a := x) (g := (mkF m 6 #[.val (.ref x), .val (.ref b)] [.null, (.int (0 : Int32)), (.int (0 : Int32)), (.ref b), (.ref x)])) rfl (by rw [hml]; rfl) (argsL := [(.ref b), (.int (0 : Int32)), (.int (0 : Int32)), .null]) (rest := []) (lenOf pd_0 rfl) rfl (by show 2 * 0 + _ ≤ _; exact Nat.le_of_eq rfl) (hb hby d2_6) rfl e0 (by decide) (by decide) hZ B0 ?_
  rintro v2 T2 L2 X2 ⟨rfl, Nq2, Kq2, Eq2, Cq2, t2, kb2, nt2, Vq2, Aq2⟩ CH2 B2 hZ hown
  have N2 := Fr.app N0 Nq2
  have K2 : Keep h0 T2.heap [x] := (Keep.refl h0 [x]).trans Kq2 (allS (Or.inl (List.mem_of_getElem? (i := 0) rfl)) all0)
  show own_Go p e below _ T2 (mkF m 9 #[.val (.ref x), .val (.ref b)] [])
  refine own_ret0S X2 hx hlk hZ hEL rfl hh B2 Bd.returns (hb hby d2_9) ?_ (by decide) (by decide)
  show QE Z x h0 n0 _ T2.heap _
  exact ⟨rfl, N2, K2, Eq2, Cq2, t2, kb2, nt2, Vq2, Aq2⟩
def QR (r : Value) (h0 : Heap) (n0 : Nat) (v : Option Value) (h : Heap) (L : List Loc) : Prop := v = some r ∧ Fr n0 L ∧ h = h0
theorem d3_0 : decode jdk_43_method_3_code 0 = .ok (.iload_n 0, 1) := by decide +kernel
theorem d3_1 : decode jdk_43_method_3_code 1 = .ok (.sipush 255, 3) := by decide +kernel
theorem d3_4 : decode jdk_43_method_3_code 4 = .ok (.if_icmp .gt 7, 3) := by decide +kernel
theorem d3_7 : decode jdk_43_method_3_code 7 = .ok (.iconst 1, 1) := by decide +kernel
theorem d3_8 : decode jdk_43_method_3_code 8 = .ok (.goto 4, 3) := by decide +kernel
theorem d3_12 : decode jdk_43_method_3_code 12 = .ok (.ireturn, 1) := by decide +kernel
theorem pn_1 : plainName "java/lang/StringLatin1" = true := by first | (simp [plainName, overriddenIn]; done) | decide +kernel
theorem ef_rmCE (m : MethodId) (x0 : Int32) : entryFrame m #[(.int x0)] 1 = mkF m 0 #[.val (.int x0)] [] := by first | (simp [entryFrame, mkF, argsToLocals, Value.category]; done) | rfl
set_option maxRecDepth 65536 in
set_option maxHeartbeats 40000000 in
theorem rmCE (l : Launch) (Z : State) (a0 : Array Value) (hw : ∀ d ∈ tables_1, d.before a0 Z = true) (ws : List Jvm.Cond) (c0 : Int32) (h0 : Heap) (n0 : Nat) (Z0 : n0 ≤ h0.size) (hc : ¬ ((255 : Int32) < c0)) :
    MetFree l (⟨"java/lang/StringLatin1", "canEncode", "(C)Z"⟩ : MethodName) (head1 (Jvm.Cond.code (⟨"java/lang/StringLatin1", "canEncode", "(C)Z"⟩ : MethodName) jdk_43_method_3_code 1 (some .boolean) :: ws) ({ frames := 0, cells := 0, slots := 0, locals := 0 } : Room)) (fun a_ U_ => a_ = #[(.int c0)] ∧ Z.Warmed39 U_.vm ∧ U_.heap = h0) (fun _ _ _ _ _ => True) (fun _ U_ o_ U'_ => ∃ v_ L_, o_ = .returned v_ ∧ QR (.int 1) h0 n0 v_ U'_.heap L_ ∧ FrameEnd U_ o_ U'_ L_ ({ frames := 0, cells := 0, slots := 0, locals := 0 } : Room).cells ({ frames := 0, cells := 0, slots := 0, locals := 0 } : Room).slots) := by
  refine MetFree.of_bodySF (plainFor_of_name pn_1) hisR ?_
  intro p e s m args below meth c s₁ Bd hml0 hP hK
  obtain ⟨rfl, hZ, hh⟩ := hP
  have hx := Bd.exec
  have hby := Bd.bytes
  have hml : c.maxLocals = 1 := hml0
  have hown : s.vm.findClass "java/lang/StringLatin1" = some m.cls := findClass_of_methodNamed Bd.named
  have hnm := (name_of_methodNamed Bd.named Bd.method).1
  have hlk := BodyLoose.notSynchronized Bd
  have X0 : Stand p l e ({ frames := 0, cells := 0, slots := 0, locals := 0 } : Room) s m #[(.int c0)] below meth c s₁ [] 0 0 := Stand.of_body Bd
  have e0 : s₁.heap = h0 := by rw [← hh, Bd.state]; rfl
  have N0 := Fr.nil n0
  refine own_entry (P := own_End s (QR (.int 1) h0 n0) ({ frames := 0, cells := 0, slots := 0, locals := 0 } : Room).cells ({ frames := 0, cells := 0, slots := 0, locals := 0 } : Room).slots) (ef_rmCE m c0) ?_
  show own_Go p e below _ s₁ (mkF m 0 #[.val (.int c0)] [])
  refine own_st (fun t_ k_ => XS.iloadN X0.here hx rfl (hb hby d3_0) rfl k_) ?_
  show own_Go p e below _ s₁ (mkF m 1 #[.val (.int c0)] [(.int c0)])
  refine own_st (fun t_ k_ => XS.sipush X0.here hx rfl (hb hby d3_1) k_) ?_
  show own_Go p e below _ s₁ (mkF m 4 #[.val (.int c0)] [(.int (255 : Int32)), (.int c0)])
  refine own_st (fun t_ k_ => XS.icmpNo X0.here hx rfl (hb hby d3_4) rfl (flt hc).2.2.1 k_) ?_
  show own_Go p e below _ s₁ (mkF m 7 #[.val (.int c0)] [])
  refine own_st (fun t_ k_ => XS.iconst X0.here hx rfl (hb hby d3_7) k_) ?_
  show own_Go p e below _ s₁ (mkF m 8 #[.val (.int c0)] [(.int (1 : Int32))])
  refine own_st (fun t_ k_ => XS.goto X0.here hx rfl (pc0 := 8) (pc' := 12) rfl (hb hby d3_8) (by decide) (by decide) k_) ?_
  show own_Go p e below _ s₁ (mkF m 12 #[.val (.int c0)] [(.int (1 : Int32))])
  refine own_retN X0 hx hlk (t := .boolean) Bd.returns (by simp) (hb hby d3_12) ?_ (by decide) (by decide)
  show QR (.int 1) h0 n0 _ s₁.heap _
  rw [e0]
  exact ⟨rfl, N0, rfl⟩
def QB (Z : State) (h0 : Heap) (n0 : Nat) (v : Option Value) (h : Heap) (L : List Loc) : Prop := ∃ t : Addr, v = some (.ref t) ∧ Fr n0 L ∧ Keep h0 h [] ∧ h0.size ≤ t ∧ n0 ≤ t
theorem d4_0 : decode jdk_43_method_46_code 0 = .ok (.iconst 1, 1) := by decide +kernel
theorem d4_1 : decode jdk_43_method_46_code 1 = .ok (.newarray .byte, 2) := by decide +kernel
theorem d4_3 : decode jdk_43_method_46_code 3 = .ok (.dup, 1) := by decide +kernel
theorem d4_4 : decode jdk_43_method_46_code 4 = .ok (.iconst 0, 1) := by decide +kernel
theorem d4_5 : decode jdk_43_method_46_code 5 = .ok (.iload_n 0, 1) := by decide +kernel
theorem d4_6 : decode jdk_43_method_46_code 6 = .ok (.i2b, 1) := by decide +kernel
theorem d4_7 : decode jdk_43_method_46_code 7 = .ok (.bastore, 1) := by decide +kernel
theorem d4_8 : decode jdk_43_method_46_code 8 = .ok (.areturn, 1) := by decide +kernel
theorem ef_rmTB (m : MethodId) (x0 : Int32) : entryFrame m #[(.int x0)] 1 = mkF m 0 #[.val (.int x0)] [] := by first | (simp [entryFrame, mkF, argsToLocals, Value.category]; done) | rfl
set_option maxRecDepth 65536 in
set_option maxHeartbeats 40000000 in
theorem rmTB (l : Launch) (Z : State) (a0 : Array Value) (hw : ∀ d ∈ tables_1, d.before a0 Z = true) (ws : List Jvm.Cond) (c0 : Int32) (h0 : Heap) (n0 : Nat) (Z0 : n0 ≤ h0.size) :
    MetFree l (⟨"java/lang/StringLatin1", "toBytes", "(C)[B"⟩ : MethodName) (head1 (Jvm.Cond.code (⟨"java/lang/StringLatin1", "toBytes", "(C)[B"⟩ : MethodName) jdk_43_method_46_code 1 (some (.array .byte)) :: ws) ({ frames := 0, cells := 1, slots := 1, locals := 0 } : Room)) (fun a_ U_ => a_ = #[(.int c0)] ∧ Z.Warmed39 U_.vm ∧ U_.heap = h0) (fun _ _ _ _ _ => True) (fun _ U_ o_ U'_ => ∃ v_ L_, o_ = .returned v_ ∧ QB Z h0 n0 v_ U'_.heap L_ ∧ FrameEnd U_ o_ U'_ L_ ({ frames := 0, cells := 1, slots := 1, locals := 0 } : Room).cells ({ frames := 0, cells := 1, slots := 1, locals := 0 } : Room).slots) := by
  refine MetFree.of_bodySF (plainFor_of_name pn_1) hisR ?_
  intro p e s m args below meth c s₁ Bd hml0 hP hK
  obtain ⟨rfl, hZ, hh⟩ := hP
  have hx := Bd.exec
  have hby := Bd.bytes
  have hml : c.maxLocals = 1 := hml0
  have hown : s.vm.findClass "java/lang/StringLatin1" = some m.cls := findClass_of_methodNamed Bd.named
  have hnm := (name_of_methodNamed Bd.named Bd.method).1
  have hlk := BodyLoose.notSynchronized Bd
  have X0 : Stand p l e ({ frames := 0, cells := 1, slots := 1, locals := 0 } : Room) s m #[(.int c0)] below meth c s₁ [] 0 0 := Stand.of_body Bd
  have e0 : s₁.heap = h0 := by rw [← hh, Bd.state]; rfl
  have N0 := Fr.nil n0
  refine own_entry (P := own_End s (QB Z h0 n0) ({ frames := 0, cells := 1, slots := 1, locals := 0 } : Room).cells ({ frames := 0, cells := 1, slots := 1, locals := 0 } : Room).slots) (ef_rmTB m c0) ?_
  show own_Go p e below _ s₁ (mkF m 0 #[.val (.int c0)] [])
  refine own_st (fun t_ k_ => XS.iconst X0.here hx rfl (hb hby d4_0) k_) ?_
  show own_Go p e below _ s₁ (mkF m 1 #[.val (.int c0)] [(.int (1 : Int32))])
  obtain ⟨T1, h1, k1, X1, e1, E1, A1, st1⟩ := newP X0 hx hZ (hw _ (List.mem_of_getElem? (i := 22) rfl)) e0 (g := (mkF m 1 #[.val (.int c0)] [(.int (1 : Int32))])) rfl (hb hby d4_1) rfl (by decide) (cap := 1) (by decide) (by decide) (by decide) (by decide)
  obtain ⟨nb1, g1⟩ : ∃ z, z = h0.size := ⟨_, rfl⟩
  rw [← g1] at A1 st1
  refine own_st st1 ?_
  have g_nb1 : n0 ≤ nb1 := Nat.le_trans (Nat.le_trans Z0 (Keep.refl h0 []).1) (Nat.le_of_eq g1.symm)
  have K1 : Keep h0 h1 [] := (Keep.refl h0 []).ext E1
  have sz_nb1 : h0.size ≤ nb1 := Nat.le_trans (Keep.refl h0 []).1 (Nat.le_of_eq g1.symm)
  have V1 : Arv Z h1 nb1 k1 .byte (1 : Int32) [(.int (0 : Int32))] (.int (0 : Int32)) := (Arv.new A1 (by decide)).pad (pad_rep [] (.int (0 : Int32)) 1)
  show own_Go p e below _ T1 (mkF m 3 #[.val (.int c0)] [(.ref nb1)])
  refine own_st (fun t_ k_ => XS.dup X1.here hx rfl (hb hby d4_3) rfl rfl k_) ?_
  show own_Go p e below _ T1 (mkF m 4 #[.val (.int c0)] [(.ref nb1), (.ref nb1)])
  refine own_st (fun t_ k_ => XS.iconst X1.here hx rfl (hb hby d4_4) k_) ?_
  show own_Go p e below _ T1 (mkF m 5 #[.val (.int c0)] [(.int (0 : Int32)), (.ref nb1), (.ref nb1)])
  refine own_st (fun t_ k_ => XS.iloadN X1.here hx rfl (hb hby d4_5) rfl k_) ?_
  show own_Go p e below _ T1 (mkF m 6 #[.val (.int c0)] [(.int c0), (.int (0 : Int32)), (.ref nb1), (.ref nb1)])
  refine own_st (fun t_ k_ => XS.i2b X1.here hx rfl (hb hby d4_6) rfl k_) ?_
  show own_Go p e below _ T1 (mkF m 7 #[.val (.int c0)] [(.int (c0.toInt8.toInt32)), (.int (0 : Int32)), (.ref nb1), (.ref nb1)])
  obtain ⟨cl2, Ar2, q2, S2, N2', H2, G2⟩ := V1
  have hin2 : ¬ ((0 : Int32) < 0 ∨ cl2.slots.size ≤ ((0 : Int32)).toNatClampNeg) := inb_of S2 ⟨by decide, by decide⟩
  obtain ⟨T2, h2, X2, e2, W2, st2⟩ := stB X1 hx hZ e1 Ar2 (j := (0 : Int32)) hin2 (g := (mkF m 7 #[.val (.int c0)] [(.int (c0.toInt8.toInt32)), (.int (0 : Int32)), (.ref nb1), (.ref nb1)])) rfl rfl (hb hby d4_7)
  have V2 : Arv Z h2 nb1 k1 .byte (1 : Int32) [(.int (nar .byte (c0.toInt8.toInt32)))] (.int (0 : Int32)) := Arv.set Ar2 q2 S2 N2' H2 G2 (fits_nar_byte _) W2 0 rfl (Nat.le_of_ble_eq_true rfl)
  refine own_st st2 ?_
  have N2 := Fr.snoc X2 N0 g_nb1
  have K2 : Keep h0 h2 [] := K1.wr W2 (Or.inr sz_nb1)
  show own_Go p e below _ T2 (mkF m 8 #[.val (.int c0)] [(.ref nb1)])
  refine own_retA X2 hx hlk Bd.returns rfl rfl (hb hby d4_8) ?_ (by decide) (by decide)
  show QB Z h0 n0 _ T2.heap _
  rw [e2]
  exact ⟨nb1, rfl, N2, K2, sz_nb1, g_nb1⟩
def QI (Z : State) (x : Addr) (h0 : Heap) (n0 : Nat) (v : Option Value) (h : Heap) (L : List Loc) : Prop := v = none ∧ Fr n0 L ∧ Keep h0 h [x] ∧ Exa Z h x "java/lang/String"
theorem d5_0 : decode jdk_42_method_151_code 0 = .ok (.aload_n 0, 1) := by decide +kernel
theorem d5_1 : decode jdk_42_method_151_code 1 = .ok (.invokespecial 1, 3) := by decide +kernel
theorem d5_4 : decode jdk_42_method_151_code 4 = .ok (.aload_n 0, 1) := by decide +kernel
theorem d5_5 : decode jdk_42_method_151_code 5 = .ok (.aload_n 1, 1) := by decide +kernel
theorem d5_6 : decode jdk_42_method_151_code 6 = .ok (.putfield 9, 3) := by decide +kernel
theorem d5_9 : decode jdk_42_method_151_code 9 = .ok (.aload_n 0, 1) := by decide +kernel
theorem d5_10 : decode jdk_42_method_151_code 10 = .ok (.iload_n 2, 1) := by decide +kernel
theorem d5_11 : decode jdk_42_method_151_code 11 = .ok (.putfield 15, 3) := by decide +kernel
theorem d5_14 : decode jdk_42_method_151_code 14 = .ok (.return_, 1) := by decide +kernel
theorem ef_rmSB (m : MethodId) (x0 : Addr) (x1 : Addr) (x2 : Int32) : entryFrame m #[(.ref x0), (.ref x1), (.int x2)] 3 = mkF m 0 #[.val (.ref x0), .val (.ref x1), .val (.int x2)] [] := by first | (simp [entryFrame, mkF, argsToLocals, Value.category]; done) | rfl
set_option maxRecDepth 65536 in
set_option maxHeartbeats 40000000 in
theorem rmSB (l : Launch) (Z : State) (a0 : Array Value) (hw : ∀ d ∈ tables_1, d.before a0 Z = true) (ws : List Jvm.Cond) (x t : Addr) (h0 : Heap) (n0 : Nat) (Z0 : n0 ≤ h0.size) (g_x : n0 ≤ x) (Ex : Exa Z h0 x "java/lang/String") (Fv : Fld Z h0 x "java/lang/String" "value" "[B" .null) (Fc : Fld Z h0 x "java/lang/String" "coder" "B" (.int (0 : Int32))) :
    MetFree l (⟨"java/lang/String", "<init>", "([BB)V"⟩ : MethodName) (head1 (Jvm.Cond.code (⟨"java/lang/String", "<init>", "([BB)V"⟩ : MethodName) jdk_42_method_151_code 3 none :: ws) ({ frames := 1, cells := 0, slots := 0, locals := 12 } : Room)) (fun a_ U_ => a_ = #[(.ref x), (.ref t), (.int (0 : Int32))] ∧ Z.Warmed39 U_.vm ∧ U_.heap = h0) (fun _ _ _ _ _ => True) (fun _ U_ o_ U'_ => ∃ v_ L_, o_ = .returned v_ ∧ QI Z x h0 n0 v_ U'_.heap L_ ∧ FrameEnd U_ o_ U'_ L_ ({ frames := 1, cells := 0, slots := 0, locals := 12 } : Room).cells ({ frames := 1, cells := 0, slots := 0, locals := 12 } : Room).slots) := by
  refine MetFree.of_bodySF (plainFor_of_name pn_0) hisR ?_
  intro p e s m args below meth c s₁ Bd hml0 hP hK
  obtain ⟨rfl, hZ, hh⟩ := hP
  have hx := Bd.exec
  have hby := Bd.bytes
  have hml : c.maxLocals = 3 := hml0
  have hown : s.vm.findClass "java/lang/String" = some m.cls := findClass_of_methodNamed Bd.named
  have hnm := (name_of_methodNamed Bd.named Bd.method).1
  have hlk := BodyLoose.notSynchronized Bd
  have X0 : Stand p l e ({ frames := 1, cells := 0, slots := 0, locals := 12 } : Room) s m #[(.ref x), (.ref t), (.int (0 : Int32))] below meth c s₁ [] 0 0 := Stand.of_body Bd
  have e0 : s₁.heap = h0 := by rw [← hh, Bd.state]; rfl
  have N0 := Fr.nil n0
  refine own_entry (P := own_End s (QI Z x h0 n0) ({ frames := 1, cells := 0, slots := 0, locals := 12 } : Room).cells ({ frames := 1, cells := 0, slots := 0, locals := 12 } : Room).slots) (ef_rmSB m x t (0 : Int32)) ?_
  show own_Go p e below _ s₁ (mkF m 0 #[.val (.ref x), .val (.ref t), .val (.int (0 : Int32))] [])
  refine own_st (fun t_ k_ => XS.aloadN X0.here hx rfl (hb hby d5_0) rfl rfl k_) ?_
  show own_Go p e below _ s₁ (mkF m 1 #[.val (.ref x), .val (.ref t), .val (.int (0 : Int32))] [(.ref x)])
  obtain ⟨T1, X1, e1, st1⟩ := initO X0 hx hZ hown (hw _ (List.mem_of_getElem? (i := 27) rfl)) (hw _ (List.mem_of_getElem? (i := 28) rfl)) (hw _ (List.mem_of_getElem? (i := 29) rfl)) e0 (g := (mkF m 1 #[.val (.ref x), .val (.ref t), .val (.int (0 : Int32))] [(.ref x)])) rfl (by rw [hml]; rfl) rfl (hb hby d5_1) (by decide) (W := 0) (by show 2 * 0 + _ ≤ _; exact Nat.le_of_eq rfl) (by decide)
  refine own_st st1 ?_
  show own_Go p e below _ T1 (mkF m 4 #[.val (.ref x), .val (.ref t), .val (.int (0 : Int32))] [])
  refine own_st (fun t_ k_ => XS.aloadN X1.here hx rfl (hb hby d5_4) rfl rfl k_) ?_
  show own_Go p e below _ T1 (mkF m 5 #[.val (.ref x), .val (.ref t), .val (.int (0 : Int32))] [(.ref x)])
  refine own_st (fun t_ k_ => XS.aloadN X1.here hx rfl (hb hby d5_5) rfl rfl k_) ?_
  show own_Go p e below _ T1 (mkF m 6 #[.val (.ref x), .val (.ref t), .val (.int (0 : Int32))] [(.ref t), (.ref x)])
  obtain ⟨T2, h2, X2, e2, W2, st2⟩ := putF X1 hx hZ hown (host := "") (Or.inl (hw _ (List.mem_of_getElem? (i := 30) rfl))) Via.refl e1 Fv Ex (Or.inr ⟨(hw _ (List.mem_of_getElem? (i := 31) rfl)), rfl, hnm⟩) (hw _ (List.mem_of_getElem? (i := 18) rfl)) (ty := (.array .byte)) (by decide) rfl rfl (g := (mkF m 6 #[.val (.ref x), .val (.ref t), .val (.int (0 : Int32))] [(.ref t), (.ref x)])) rfl rfl (hb hby d5_6)
  refine own_st st2 ?_
  have N2 := Fr.snoc X2 N0 g_x
  have K2 : Keep h0 h2 [x] := (Keep.refl h0 [x]).wr W2 (Or.inl (List.mem_of_getElem? (i := 0) rfl))
  have Fw2 := Fld.same W2 Fv
  show own_Go p e below _ T2 (mkF m 9 #[.val (.ref x), .val (.ref t), .val (.int (0 : Int32))] [])
  refine own_st (fun t_ k_ => XS.aloadN X2.here hx rfl (hb hby d5_9) rfl rfl k_) ?_
  show own_Go p e below _ T2 (mkF m 10 #[.val (.ref x), .val (.ref t), .val (.int (0 : Int32))] [(.ref x)])
  refine own_st (fun t_ k_ => XS.iloadN X2.here hx rfl (hb hby d5_10) rfl k_) ?_
  show own_Go p e below _ T2 (mkF m 11 #[.val (.ref x), .val (.ref t), .val (.int (0 : Int32))] [(.int (0 : Int32)), (.ref x)])
  have f4 := (Fld.other W2 Fc (Or.inr (slot_ne (Or.inr (hw _ (List.mem_of_getElem? (i := 33) rfl))) (Or.inr (hw _ (List.mem_of_getElem? (i := 31) rfl))) (by decide) (t := .byte) (t' := (.array .byte)) (by decide) (by decide))))
  have f5 := (Exa.wr W2 Ex)
  obtain ⟨T3, h3, X3, e3, W3, st3⟩ := putFN X2 hx hZ hown (hw _ (List.mem_of_getElem? (i := 32) rfl)) Via.refl e2 f4 f5 (Or.inr ⟨(hw _ (List.mem_of_getElem? (i := 33) rfl)), rfl, hnm⟩) (hw _ (List.mem_of_getElem? (i := 18) rfl)) (ty := .byte) (v' := (.int (0 : Int32))) (by decide) rfl (by decide) (g := (mkF m 11 #[.val (.ref x), .val (.ref t), .val (.int (0 : Int32))] [(.int (0 : Int32)), (.ref x)])) rfl rfl (hb hby d5_11)
  refine own_st st3 ?_
  have N3 := Fr.snoc X3 N2 g_x
  have K3 : Keep h0 h3 [x] := K2.wr W3 (Or.inl (List.mem_of_getElem? (i := 0) rfl))
  have Fw3 := Fld.same W3 f4
  show own_Go p e below _ T3 (mkF m 14 #[.val (.ref x), .val (.ref t), .val (.int (0 : Int32))] [])
  have f6 := (Exa.wr W3 f5)
  refine own_ret0 X3 hx hlk Bd.returns (hb hby d5_14) ?_ (by decide) (by decide)
  show QI Z x h0 n0 _ T3.heap _
  rw [e3]
  exact ⟨rfl, N3, K3, f6⟩
theorem d6_0 : decode jdk_42_method_139_code 0 = .ok (.getstatic 38, 3) := by decide +kernel
theorem d6_3 : decode jdk_42_method_139_code 3 = .ok (.ifCond .eq 23, 3) := by decide +kernel
theorem d6_6 : decode jdk_42_method_139_code 6 = .ok (.iload_n 0, 1) := by decide +kernel
theorem d6_7 : decode jdk_42_method_139_code 7 = .ok (.invokestatic 1015, 3) := by decide +kernel
theorem pd_1 : parseMethodDescriptor "(C)Z" = some ⟨[.char], some .boolean⟩ := by decide +kernel
theorem d6_10 : decode jdk_42_method_139_code 10 = .ok (.ifCond .eq 16, 3) := by decide +kernel
theorem d6_13 : decode jdk_42_method_139_code 13 = .ok (.new 10, 3) := by decide +kernel
theorem d6_16 : decode jdk_42_method_139_code 16 = .ok (.dup, 1) := by decide +kernel
theorem d6_17 : decode jdk_42_method_139_code 17 = .ok (.iload_n 0, 1) := by decide +kernel
theorem d6_18 : decode jdk_42_method_139_code 18 = .ok (.invokestatic 1018, 3) := by decide +kernel
theorem pd_2 : parseMethodDescriptor "(C)[B" = some ⟨[.char], some (.array .byte)⟩ := by decide +kernel
theorem d6_21 : decode jdk_42_method_139_code 21 = .ok (.iconst 0, 1) := by decide +kernel
theorem d6_22 : decode jdk_42_method_139_code 22 = .ok (.invokespecial 209, 3) := by decide +kernel
theorem pd_3 : parseMethodDescriptor "([BB)V" = some ⟨[(.array .byte), .byte], none⟩ := by decide +kernel
theorem d6_25 : decode jdk_42_method_139_code 25 = .ok (.areturn, 1) := by decide +kernel
theorem ef_rmVO (m : MethodId) (x0 : Int32) : entryFrame m #[(.int x0)] 1 = mkF m 0 #[.val (.int x0)] [] := by first | (simp [entryFrame, mkF, argsToLocals, Value.category]; done) | rfl
set_option maxRecDepth 65536 in
set_option maxHeartbeats 40000000 in
theorem rmVO (l : Launch) (Z : State) (a0 : Array Value) (hw : ∀ d ∈ tables_1, d.before a0 Z = true) (ws : List Jvm.Cond) (c0 G : Int32) (h0 : Heap) (n0 : Nat) (Z0 : n0 ≤ h0.size) (SC : Sta Z Z.heap "java/lang/String" "COMPACT_STRINGS" "Z" (.int G)) (hCS : ¬ G = 0) (O0 : Old Z n0 h0) (hL : own_L c0) :
    MetFree l (⟨"java/lang/String", "valueOf", "(C)Ljava/lang/String;"⟩ : MethodName) (head1 (Jvm.Cond.code (⟨"java/lang/String", "valueOf", "(C)Ljava/lang/String;"⟩ : MethodName) jdk_42_method_139_code 1 (some (.object "java/lang/String")) :: ws) ({ frames := 2, cells := 2, slots := 5, locals := 27 } : Room)) (fun a_ U_ => a_ = #[(.int c0)] ∧ Z.Warmed39 U_.vm ∧ U_.heap = h0) (fun _ _ _ _ _ => True) (fun _ U_ o_ U'_ => ∃ v_ L_, o_ = .returned v_ ∧ QB Z h0 n0 v_ U'_.heap L_ ∧ FrameEnd U_ o_ U'_ L_ ({ frames := 2, cells := 2, slots := 5, locals := 27 } : Room).cells ({ frames := 2, cells := 2, slots := 5, locals := 27 } : Room).slots) := by
  refine MetFree.of_bodySF (plainFor_of_name pn_0) hisR ?_
  intro p e s m args below meth c s₁ Bd hml0 hP hK
  obtain ⟨rfl, hZ, hh⟩ := hP
  have hx := Bd.exec
  have hby := Bd.bytes
  have hml : c.maxLocals = 1 := hml0
  have hown : s.vm.findClass "java/lang/String" = some m.cls := findClass_of_methodNamed Bd.named
  have hnm := (name_of_methodNamed Bd.named Bd.method).1
  have hlk := BodyLoose.notSynchronized Bd
  have X0 : Stand p l e ({ frames := 2, cells := 2, slots := 5, locals := 27 } : Room) s m #[(.int c0)] below meth c s₁ [] 0 0 := Stand.of_body Bd
  have e0 : s₁.heap = h0 := by rw [← hh, Bd.state]; rfl
  have N0 := Fr.nil n0
  refine own_entry (P := own_End s (QB Z h0 n0) ({ frames := 2, cells := 2, slots := 5, locals := 27 } : Room).cells ({ frames := 2, cells := 2, slots := 5, locals := 27 } : Room).slots) (ef_rmVO m c0) ?_
  show own_Go p e below _ s₁ (mkF m 0 #[.val (.int c0)] [])
  obtain ⟨T1, X1, e1, st1⟩ := getS2 X0 hx hZ hown (host := "") (Or.inl (hw _ (List.mem_of_getElem? (i := 12) rfl))) Via.refl e0 (Sta.ext O0.2 SC) (g := (mkF m 0 #[.val (.int c0)] [])) rfl (hb hby d6_0)
  refine own_st st1 ?_
  show own_Go p e below _ T1 (mkF m 3 #[.val (.int c0)] [(.int G)])
  refine own_st (fun t_ k_ => XS.ifNo X1.here hx rfl (hb hby d6_3) rfl ((if0 _ _).trans (feq hCS).1) k_) ?_
  show own_Go p e below _ T1 (mkF m 6 #[.val (.int c0)] [])
  refine own_st (fun t_ k_ => XS.iloadN X1.here hx rfl (hb hby d6_6) rfl k_) ?_
  show own_Go p e below _ T1 (mkF m 7 #[.val (.int c0)] [(.int c0)])
  refine own_callS X1 hx (y := (⟨"java/lang/StringLatin1", "canEncode", "(C)Z"⟩ : MethodName)) hown (mvT hZ (hw _ (List.mem_of_getElem? (i := 13) rfl))) (mvT hZ (hw _ (List.mem_of_getElem? (i := 14) rfl))) (mvT hZ (hw _ (List.mem_of_getElem? (i := 15) rfl))) (mvT hZ (hw _ (List.mem_of_getElem? (i := 16) rfl))) (by decide) (backOf (W := 0) (rmCE l Z a0 hw [] c0 h0 n0 (Nat.le_trans Z0 (Keep.refl h0 []).1) (own_LL hL).2) hZ (hw _ (List.mem_of_getElem? (i := 16) rfl)) (hw _ (List.mem_of_getElem? (i := 15) rfl)) (by decide) (by decide)) (g := (mkF m 7 #[.val (.int c0)] [(.int c0)])) rfl (by rw [hml]; rfl) (argsL := [(.int c0)]) (rest := []) (lenOf pd_1 rfl) rfl (by show 2 * 0 + _ ≤ _; exact Nat.le_of_eq rfl) (hb hby d6_7) rfl e1 (by decide) (by decide) ?_
  rintro v2 T2 L2 X2 ⟨rfl, Nq2, hh2⟩
  have N2 := Fr.app N0 Nq2
  show own_Go p e below _ T2 (mkF m 10 #[.val (.int c0)] [(.int (1 : Int32))])
  refine own_st (fun t_ k_ => XS.ifNo X2.here hx rfl (hb hby d6_10) rfl (by decide) k_) ?_
  show own_Go p e below _ T2 (mkF m 13 #[.val (.int c0)] [])
  obtain ⟨T3, h3, X3, e3, E3, A3, D3, cel3, st3⟩ := newO X2 hx hZ hown (hw _ (List.mem_of_getElem? (i := 17) rfl)) (hw _ (List.mem_of_getElem? (i := 18) rfl)) (hw _ (List.mem_of_getElem? (i := 10) rfl)) hh2 (g := (mkF m 13 #[.val (.int c0)] [])) rfl (hb hby d6_13) (by decide) (by decide)
  obtain ⟨nb3, g3⟩ : ∃ z, z = h0.size := ⟨_, rfl⟩
  rw [← g3] at A3 D3 cel3 st3
  refine own_st st3 ?_
  have g_nb3 : n0 ≤ nb3 := Nat.le_trans (Nat.le_trans Z0 (Keep.refl h0 []).1) (Nat.le_of_eq g3.symm)
  have K3 : Keep h0 h3 [] := (Keep.refl h0 []).ext E3
  have sz_nb3 : h0.size ≤ nb3 := Nat.le_trans (Keep.refl h0 []).1 (Nat.le_of_eq g3.symm)
  have F3_value : Fld Z h3 nb3 "java/lang/String" "value" "[B" .null := D3 (Or.inr (hw _ (List.mem_of_getElem? (i := 31) rfl))) (ty := (.array .byte)) (by decide)
  have F3_coder : Fld Z h3 nb3 "java/lang/String" "coder" "B" (.int (0 : Int32)) := D3 (Or.inr (hw _ (List.mem_of_getElem? (i := 33) rfl))) (ty := .byte) (by decide)
  show own_Go p e below _ T3 (mkF m 16 #[.val (.int c0)] [(.ref nb3)])
  refine own_st (fun t_ k_ => XS.dup X3.here hx rfl (hb hby d6_16) rfl rfl k_) ?_
  show own_Go p e below _ T3 (mkF m 17 #[.val (.int c0)] [(.ref nb3), (.ref nb3)])
  refine own_st (fun t_ k_ => XS.iloadN X3.here hx rfl (hb hby d6_17) rfl k_) ?_
  show own_Go p e below _ T3 (mkF m 18 #[.val (.int c0)] [(.int c0), (.ref nb3), (.ref nb3)])
  refine own_callS X3 hx (y := (⟨"java/lang/StringLatin1", "toBytes", "(C)[B"⟩ : MethodName)) hown (mvT hZ (hw _ (List.mem_of_getElem? (i := 19) rfl))) (mvT hZ (hw _ (List.mem_of_getElem? (i := 20) rfl))) (mvT hZ (hw _ (List.mem_of_getElem? (i := 15) rfl))) (mvT hZ (hw _ (List.mem_of_getElem? (i := 21) rfl))) (by decide) (backOf (W := 2) (rmTB l Z a0 hw [] c0 h3 n0 (Nat.le_trans Z0 K3.1)) hZ (hw _ (List.mem_of_getElem? (i := 21) rfl)) (hw _ (List.mem_of_getElem? (i := 15) rfl)) (by decide) (by decide)) (g := (mkF m 18 #[.val (.int c0)] [(.int c0), (.ref nb3), (.ref nb3)])) rfl (by rw [hml]; rfl) (argsL := [(.int c0)]) (rest := [(.ref nb3), (.ref nb3)]) (lenOf pd_2 rfl) rfl (by show 2 * 0 + _ ≤ _; exact Nat.le_of_eq rfl) (hb hby d6_18) rfl e3 (by decide) (by decide) ?_
  rintro v4 T4 L4 X4 ⟨t4, rfl, Nq4, Kq4, gt4, g_t4⟩
  have N4 := Fr.app N2 Nq4
  have K4 : Keep h0 T4.heap [] := K3.trans Kq4 all0
  show own_Go p e below _ T4 (mkF m 21 #[.val (.int c0)] [(.ref t4), (.ref nb3), (.ref nb3)])
  refine own_st (fun t_ k_ => XS.iconst X4.here hx rfl (hb hby d6_21) k_) ?_
  show own_Go p e below _ T4 (mkF m 22 #[.val (.int c0)] [(.int (0 : Int32)), (.ref t4), (.ref nb3), (.ref nb3)])
  have f5 := (A3.keep Kq4)
  have f6 := (F3_value.keep Kq4 nin0)
  have f7 := (F3_coder.keep Kq4 nin0)
  refine own_callN X4 hx (y := (⟨"java/lang/String", "<init>", "([BB)V"⟩ : MethodName)) rfl hown (mvT hZ (hw _ (List.mem_of_getElem? (i := 23) rfl))) (mvT hZ (hw _ (List.mem_of_getElem? (i := 24) rfl))) (mvT hZ (hw _ (List.mem_of_getElem? (i := 26) rfl))) (by decide) (backOf (W := 1) (rmSB l Z a0 hw [] nb3 t4 T4.heap n0 (Nat.le_trans Z0 K4.1) g_nb3 f5 f6 f7) hZ (hw _ (List.mem_of_getElem? (i := 26) rfl)) (hw _ (List.mem_of_getElem? (i := 10) rfl)) (by decide) (by decide)) (a := nb3) (g := (mkF m 22 #[.val (.int c0)] [(.int (0 : Int32)), (.ref t4), (.ref nb3), (.ref nb3)])) rfl (by rw [hml]; rfl) (argsL := [(.ref t4), (.int (0 : Int32))]) (rest := [(.ref nb3)]) (lenOf pd_3 rfl) rfl (by show 2 * 0 + _ ≤ _; exact Nat.le_of_eq rfl) (hb hby d6_22) rfl rfl (by decide) (by decide) ?_
  rintro v8 T8 L8 X8 ⟨rfl, Nq8, Kq8, Eq8⟩
  have N8 := Fr.app N4 Nq8
  have K8 : Keep h0 T8.heap [] := K4.trans Kq8 (allS (Or.inr sz_nb3) all0)
  show own_Go p e below _ T8 (mkF m 25 #[.val (.int c0)] [(.ref nb3)])
  refine own_retA X8 hx hlk Bd.returns rfl rfl (hb hby d6_25) ?_ (by decide) (by decide)
  show QB Z h0 n0 _ T8.heap _
  exact ⟨nb3, rfl, N8, K8, sz_nb3, g_nb3⟩
def own_mk (n c0 c1 : Int32) : List Int32 := if n = (0 : Int32) then [] else if n = (1 : Int32) then [c0] else [c0, c1]
def QM (Z : State) (cs : List Int32) (h0 : Heap) (n0 : Nat) (v : Option Value) (h : Heap) (L : List Loc) : Prop := ∃ (x t : Addr) (kb : ClassId), v = some (.ref x) ∧ Fr n0 L ∧ Keep h0 h [] ∧ h0.size ≤ x ∧ n0 ≤ x ∧ ¬ t = x ∧ Exa Z h x "java/lang/String" ∧ Fld Z h x "java/lang/String" "coder" "B" (.int 0) ∧ Fld Z h x "java/lang/String" "value" "[B" (.ref t) ∧ Arv Z h t kb .byte (Int32.ofNat cs.length) ((cs.map (fun c => c.toInt8.toInt32)).map Value.int) (.int 0) ∧ ∀ c ∈ cs, ¬ c < 0 ∧ ¬ (255 : Int32) < c
theorem d7_0 : decode method_2_code 0 = .ok (.iload_n 0, 1) := by decide +kernel
theorem d7_1 : decode method_2_code 1 = .ok (.ifCond .ne 14, 3) := by decide +kernel
theorem d7_15 : decode method_2_code 15 = .ok (.iload_n 0, 1) := by decide +kernel
theorem d7_16 : decode method_2_code 16 = .ok (.iconst 1, 1) := by decide +kernel
theorem d7_17 : decode method_2_code 17 = .ok (.if_icmp .ne 18, 3) := by decide +kernel
theorem d7_35 : decode method_2_code 35 = .ok (.new 7, 3) := by decide +kernel
theorem d7_38 : decode method_2_code 38 = .ok (.dup, 1) := by decide +kernel
theorem d7_39 : decode method_2_code 39 = .ok (.iconst 2, 1) := by decide +kernel
theorem d7_40 : decode method_2_code 40 = .ok (.newarray .char, 2) := by decide +kernel
theorem d7_42 : decode method_2_code 42 = .ok (.dup, 1) := by decide +kernel
theorem d7_43 : decode method_2_code 43 = .ok (.iconst 0, 1) := by decide +kernel
theorem d7_44 : decode method_2_code 44 = .ok (.iload_n 1, 1) := by decide +kernel
theorem d7_45 : decode method_2_code 45 = .ok (.castore, 1) := by decide +kernel
theorem d7_46 : decode method_2_code 46 = .ok (.dup, 1) := by decide +kernel
theorem d7_47 : decode method_2_code 47 = .ok (.iconst 1, 1) := by decide +kernel
theorem d7_48 : decode method_2_code 48 = .ok (.iload_n 2, 1) := by decide +kernel
theorem d7_49 : decode method_2_code 49 = .ok (.castore, 1) := by decide +kernel
theorem d7_50 : decode method_2_code 50 = .ok (.invokespecial 9, 3) := by decide +kernel
theorem pd_4 : parseMethodDescriptor "([C)V" = some ⟨[(.array .char)], none⟩ := by decide +kernel
theorem d7_53 : decode method_2_code 53 = .ok (.areturn, 1) := by decide +kernel
theorem d7_20 : decode method_2_code 20 = .ok (.new 7, 3) := by decide +kernel
theorem d7_23 : decode method_2_code 23 = .ok (.dup, 1) := by decide +kernel
theorem d7_24 : decode method_2_code 24 = .ok (.iconst 1, 1) := by decide +kernel
theorem d7_25 : decode method_2_code 25 = .ok (.newarray .char, 2) := by decide +kernel
theorem d7_27 : decode method_2_code 27 = .ok (.dup, 1) := by decide +kernel
theorem d7_28 : decode method_2_code 28 = .ok (.iconst 0, 1) := by decide +kernel
theorem d7_29 : decode method_2_code 29 = .ok (.iload_n 1, 1) := by decide +kernel
theorem d7_30 : decode method_2_code 30 = .ok (.castore, 1) := by decide +kernel
theorem d7_31 : decode method_2_code 31 = .ok (.invokespecial 9, 3) := by decide +kernel
theorem d7_34 : decode method_2_code 34 = .ok (.areturn, 1) := by decide +kernel
theorem d7_4 : decode method_2_code 4 = .ok (.new 7, 3) := by decide +kernel
theorem d7_7 : decode method_2_code 7 = .ok (.dup, 1) := by decide +kernel
theorem d7_8 : decode method_2_code 8 = .ok (.iconst 0, 1) := by decide +kernel
theorem d7_9 : decode method_2_code 9 = .ok (.newarray .char, 2) := by decide +kernel
theorem d7_11 : decode method_2_code 11 = .ok (.invokespecial 9, 3) := by decide +kernel
theorem d7_14 : decode method_2_code 14 = .ok (.areturn, 1) := by decide +kernel
theorem pn_2 : plainName "com/example/gentle_nudge/gentlenudge/server/ChannelOwnerMayStopChannelOfPinLaw" = true := by first | (simp [plainName, overriddenIn]; done) | decide +kernel
theorem ef_rmMK (m : MethodId) (x0 : Int32) (x1 : Int32) (x2 : Int32) : entryFrame m #[(.int x0), (.int x1), (.int x2)] 3 = mkF m 0 #[.val (.int x0), .val (.int x1), .val (.int x2)] [] := by first | (simp [entryFrame, mkF, argsToLocals, Value.category]; done) | rfl
set_option maxRecDepth 65536 in
set_option maxHeartbeats 40000000 in
theorem rmMK (l : Launch) (Z : State) (a0 : Array Value) (hw : ∀ d ∈ tables_1, d.before a0 Z = true) (ws : List Jvm.Cond) (n c0 c1 G : Int32) (h0 : Heap) (n0 : Nat) (Z0 : n0 ≤ h0.size) (SC : Sta Z Z.heap "java/lang/String" "COMPACT_STRINGS" "Z" (.int G)) (hCS : ¬ G = 0) (O0 : Old Z n0 h0) (h0L : own_L c0) (h1L : own_L c1) :
    MetFree l (⟨"com/example/gentle_nudge/gentlenudge/server/ChannelOwnerMayStopChannelOfPinLaw", "mk", "(ICC)Ljava/lang/String;"⟩ : MethodName) (head1 (Jvm.Cond.code (⟨"com/example/gentle_nudge/gentlenudge/server/ChannelOwnerMayStopChannelOfPinLaw", "mk", "(ICC)Ljava/lang/String;"⟩ : MethodName) method_2_code 3 (some (.object "java/lang/String")) :: ws) ({ frames := 4, cells := 6, slots := 12, locals := 66 } : Room)) (fun a_ U_ => a_ = #[(.int n), (.int c0), (.int c1)] ∧ Z.Warmed39 U_.vm ∧ U_.heap = h0 ∧ CHv Z consts_1 U_.vm h0) (fun _ _ _ _ _ => True) (fun _ U_ o_ U'_ => ∃ v_ L_, o_ = .returned v_ ∧ QM Z (own_mk n c0 c1) h0 n0 v_ U'_.heap L_ ∧ CHr Z consts_1 U_.vm U_.heap U'_.vm U'_.heap ∧ ReturnedEndW U_ o_ U'_ L_ ({ frames := 4, cells := 6, slots := 12, locals := 66 } : Room).cells ({ frames := 4, cells := 6, slots := 12, locals := 66 } : Room).slots) := by
  refine MetFree.of_bodySF (plainFor_of_name pn_2) hisR ?_
  intro p e s m args below meth c s₁ Bd hml0 hP hK
  obtain ⟨rfl, hZ, hh, hC0⟩ := hP
  have hx := Bd.exec
  have hby := Bd.bytes
  have hml : c.maxLocals = 3 := hml0
  have hown : s.vm.findClass "com/example/gentle_nudge/gentlenudge/server/ChannelOwnerMayStopChannelOfPinLaw" = some m.cls := findClass_of_methodNamed Bd.named
  have hnm := (name_of_methodNamed Bd.named Bd.method).1
  have hlk := BodyLoose.notSynchronized Bd
  have X0 : Stand p l e ({ frames := 4, cells := 6, slots := 12, locals := 66 } : Room) (s.setVm s.vm) m #[(.int n), (.int c0), (.int c1)] below meth c s₁ [] 0 0 := Stand.of_body Bd
  have e0 : s₁.heap = h0 := by rw [← hh, Bd.state]; rfl
  have N0 := Fr.nil n0
  have hEL := own_EL hw
  have B0 : own_Bk Z consts_1 s h0 s.vm h0 := own_Bk.start hC0
  refine own_entry (P := own_EndS Z consts_1 s (QM Z (own_mk n c0 c1) h0 n0) ({ frames := 4, cells := 6, slots := 12, locals := 66 } : Room).cells ({ frames := 4, cells := 6, slots := 12, locals := 66 } : Room).slots) (ef_rmMK m n c0 c1) ?_
  show own_Go p e below _ s₁ (mkF m 0 #[.val (.int n), .val (.int c0), .val (.int c1)] [])
  refine own_st (fun t_ k_ => XS.iloadN X0.here hx rfl (hb hby d7_0) rfl k_) ?_
  show own_Go p e below _ s₁ (mkF m 1 #[.val (.int n), .val (.int c0), .val (.int c1)] [(.int n)])
  by_cases hf1 : n = (0 : Int32)
  · refine own_st (fun t_ k_ => XS.ifNo X0.here hx rfl (hb hby d7_1) rfl ((if0 _ _).trans (teq hf1).2) k_) ?_
    show own_Go p e below _ s₁ (mkF m 4 #[.val (.int n), .val (.int c0), .val (.int c1)] [])
    obtain ⟨T40, h40, X40, e40, E40, A40, D40, cel40, st40⟩ := newO X0 hx hZ hown (hw _ (List.mem_of_getElem? (i := 38) rfl)) (hw _ (List.mem_of_getElem? (i := 18) rfl)) (hw _ (List.mem_of_getElem? (i := 10) rfl)) e0 (g := (mkF m 4 #[.val (.int n), .val (.int c0), .val (.int c1)] [])) rfl (hb hby d7_4) (by decide) (by decide)
    obtain ⟨nb40, g40⟩ : ∃ z, z = h0.size := ⟨_, rfl⟩
    rw [← g40] at A40 D40 cel40 st40
    refine own_st st40 ?_
    have g_nb40 : n0 ≤ nb40 := Nat.le_trans (Nat.le_trans Z0 (Keep.refl h0 []).1) (Nat.le_of_eq g40.symm)
    have K40 : Keep h0 h40 [] := (Keep.refl h0 []).ext E40
    have sz_nb40 : h0.size ≤ nb40 := Nat.le_trans (Keep.refl h0 []).1 (Nat.le_of_eq g40.symm)
    have B40 := own_Bk.ext E40 B0
    have Sf40 := Safe.ext E40 (own_Bk.ch B0) (Safe.new (Nat.le_of_eq g40.symm))
    have F40_value : Fld Z h40 nb40 "java/lang/String" "value" "[B" .null := D40 (Or.inr (hw _ (List.mem_of_getElem? (i := 31) rfl))) (ty := (.array .byte)) (by decide)
    have F40_coder : Fld Z h40 nb40 "java/lang/String" "coder" "B" (.int (0 : Int32)) := D40 (Or.inr (hw _ (List.mem_of_getElem? (i := 33) rfl))) (ty := .byte) (by decide)
    show own_Go p e below _ T40 (mkF m 7 #[.val (.int n), .val (.int c0), .val (.int c1)] [(.ref nb40)])
    refine own_st (fun t_ k_ => XS.dup X40.here hx rfl (hb hby d7_7) rfl rfl k_) ?_
    show own_Go p e below _ T40 (mkF m 8 #[.val (.int n), .val (.int c0), .val (.int c1)] [(.ref nb40), (.ref nb40)])
    refine own_st (fun t_ k_ => XS.iconst X40.here hx rfl (hb hby d7_8) k_) ?_
    show own_Go p e below _ T40 (mkF m 9 #[.val (.int n), .val (.int c0), .val (.int c1)] [(.int (0 : Int32)), (.ref nb40), (.ref nb40)])
    obtain ⟨T41, h41, k41, X41, e41, E41, A41, st41⟩ := newP X40 hx hZ (hw _ (List.mem_of_getElem? (i := 39) rfl)) e40 (g := (mkF m 9 #[.val (.int n), .val (.int c0), .val (.int c1)] [(.int (0 : Int32)), (.ref nb40), (.ref nb40)])) rfl (hb hby d7_9) rfl (by decide) (cap := 0) (by decide) (by decide) (by decide) (by decide)
    obtain ⟨nb41, g41⟩ : ∃ z, z = h40.size := ⟨_, rfl⟩
    rw [← g41] at A41 st41
    refine own_st st41 ?_
    have g_nb41 : n0 ≤ nb41 := Nat.le_trans (Nat.le_trans Z0 K40.1) (Nat.le_of_eq g41.symm)
    have K41 : Keep h0 h41 [] := K40.ext E41
    have sz_nb41 : h0.size ≤ nb41 := Nat.le_trans K40.1 (Nat.le_of_eq g41.symm)
    have B41 := own_Bk.ext E41 B40
    have Sf41 := Safe.ext E41 (own_Bk.ch B40) (Safe.new (Nat.le_of_eq g41.symm))
    have V41 : Arv Z h41 nb41 k41 .char (0 : Int32) [] (.int (0 : Int32)) := (Arv.new A41 (by decide)).pad (pad_rep [] (.int (0 : Int32)) 0)
    show own_Go p e below _ T41 (mkF m 11 #[.val (.int n), .val (.int c0), .val (.int c1)] [(.ref nb41), (.ref nb40), (.ref nb40)])
    have f43 := (Exa.ext E41 A40)
    have f44 := (Fld.ext E41 F40_value)
    have f45 := (Fld.ext E41 F40_coder)
    have f47 := (Safe.ext E41 (own_Bk.ch B40) Sf40)
    refine own_callNS X41 hx (y := (⟨"java/lang/String", "<init>", "([C)V"⟩ : MethodName)) rfl hown (mvT hZ (hw _ (List.mem_of_getElem? (i := 40) rfl))) (mvT hZ (hw _ (List.mem_of_getElem? (i := 41) rfl))) (mvT hZ (hw _ (List.mem_of_getElem? (i := 42) rfl))) (by decide) (backOfSH (W := 1) (rmE0 l Z a0 hw [] nb40 nb41 k41 h41 n0 (Nat.le_trans Z0 K41.1) g_nb40 f43 f44 f45 V41) hZ (hw _ (List.mem_of_getElem? (i := 42) rfl)) (hw _ (List.mem_of_getElem? (i := 10) rfl)) (by decide) (by decide) hEL (own_Bk.ch B41)) (a := nb40) (g := (mkF m 11 #[.val (.int n), .val (.int c0), .val (.int c1)] [(.ref nb41), (.ref nb40), (.ref nb40)])) rfl (by rw [hml]; rfl) (argsL := [(.ref nb41)]) (rest := [(.ref nb40)]) (lenOf pd_4 rfl) rfl (by show 2 * 0 + _ ≤ _; exact Nat.le_of_eq rfl) (hb hby d7_11) rfl e41 (by decide) (by decide) hZ B41 ?_
    rintro v46 T46 L46 X46 ⟨rfl, Nq46, Kq46, Eq46, Cq46, t46, kb46, nt46, Vq46, Aq46⟩ CH46 B46 hZ hown
    have N46 := Fr.app N0 Nq46
    have K46 : Keep h0 T46.heap [] := K41.trans Kq46 (allS (Or.inr sz_nb40) all0)
    show own_Go p e below _ T46 (mkF m 14 #[.val (.int n), .val (.int c0), .val (.int c1)] [(.ref nb40)])
    have hp46 := own_lnil
    have ecs : own_mk n c0 c1 = ([] : List Int32) := by simp [own_mk, own_LN h0L, own_LN h1L, hf1]
    refine own_retAS X46 hx hlk hZ hEL rfl hh B46 Bd.returns rfl rfl (hb hby d7_14) ?_ (by decide) (by decide)
    show QM Z (own_mk n c0 c1) h0 n0 _ T46.heap _
    exact ⟨nb40, t46, kb46, rfl, N46, K46, sz_nb40, g_nb40, nt46, Eq46, Cq46, Vq46, by rw [ecs]; exact Aq46, by rw [ecs]; exact hp46⟩
  · refine own_st (fun t_ k_ => XS.ifYes X0.here hx rfl (pc0 := 1) (pc' := 15) rfl (hb hby d7_1) rfl ((if0 _ _).trans (feq hf1).2) (by decide) (by decide) k_) ?_
    show own_Go p e below _ s₁ (mkF m 15 #[.val (.int n), .val (.int c0), .val (.int c1)] [])
    refine own_st (fun t_ k_ => XS.iloadN X0.here hx rfl (hb hby d7_15) rfl k_) ?_
    show own_Go p e below _ s₁ (mkF m 16 #[.val (.int n), .val (.int c0), .val (.int c1)] [(.int n)])
    refine own_st (fun t_ k_ => XS.iconst X0.here hx rfl (hb hby d7_16) k_) ?_
    show own_Go p e below _ s₁ (mkF m 17 #[.val (.int n), .val (.int c0), .val (.int c1)] [(.int (1 : Int32)), (.int n)])
    by_cases hf17 : n = (1 : Int32)
    · refine own_st (fun t_ k_ => XS.icmpNo X0.here hx rfl (hb hby d7_17) rfl (teq hf17).2 k_) ?_
      show own_Go p e below _ s₁ (mkF m 20 #[.val (.int n), .val (.int c0), .val (.int c1)] [])
      obtain ⟨T24, h24, X24, e24, E24, A24, D24, cel24, st24⟩ := newO X0 hx hZ hown (hw _ (List.mem_of_getElem? (i := 38) rfl)) (hw _ (List.mem_of_getElem? (i := 18) rfl)) (hw _ (List.mem_of_getElem? (i := 10) rfl)) e0 (g := (mkF m 20 #[.val (.int n), .val (.int c0), .val (.int c1)] [])) rfl (hb hby d7_20) (by decide) (by decide)
      obtain ⟨nb24, g24⟩ : ∃ z, z = h0.size := ⟨_, rfl⟩
      rw [← g24] at A24 D24 cel24 st24
      refine own_st st24 ?_
      have g_nb24 : n0 ≤ nb24 := Nat.le_trans (Nat.le_trans Z0 (Keep.refl h0 []).1) (Nat.le_of_eq g24.symm)
      have K24 : Keep h0 h24 [] := (Keep.refl h0 []).ext E24
      have sz_nb24 : h0.size ≤ nb24 := Nat.le_trans (Keep.refl h0 []).1 (Nat.le_of_eq g24.symm)
      have B24 := own_Bk.ext E24 B0
      have Sf24 := Safe.ext E24 (own_Bk.ch B0) (Safe.new (Nat.le_of_eq g24.symm))
      have F24_value : Fld Z h24 nb24 "java/lang/String" "value" "[B" .null := D24 (Or.inr (hw _ (List.mem_of_getElem? (i := 31) rfl))) (ty := (.array .byte)) (by decide)
      have F24_coder : Fld Z h24 nb24 "java/lang/String" "coder" "B" (.int (0 : Int32)) := D24 (Or.inr (hw _ (List.mem_of_getElem? (i := 33) rfl))) (ty := .byte) (by decide)
      show own_Go p e below _ T24 (mkF m 23 #[.val (.int n), .val (.int c0), .val (.int c1)] [(.ref nb24)])
      refine own_st (fun t_ k_ => XS.dup X24.here hx rfl (hb hby d7_23) rfl rfl k_) ?_
      show own_Go p e below _ T24 (mkF m 24 #[.val (.int n), .val (.int c0), .val (.int c1)] [(.ref nb24), (.ref nb24)])
      refine own_st (fun t_ k_ => XS.iconst X24.here hx rfl (hb hby d7_24) k_) ?_
      show own_Go p e below _ T24 (mkF m 25 #[.val (.int n), .val (.int c0), .val (.int c1)] [(.int (1 : Int32)), (.ref nb24), (.ref nb24)])
      obtain ⟨T25, h25, k25, X25, e25, E25, A25, st25⟩ := newP X24 hx hZ (hw _ (List.mem_of_getElem? (i := 39) rfl)) e24 (g := (mkF m 25 #[.val (.int n), .val (.int c0), .val (.int c1)] [(.int (1 : Int32)), (.ref nb24), (.ref nb24)])) rfl (hb hby d7_25) rfl (by decide) (cap := 1) (by decide) (by decide) (by decide) (by decide)
      obtain ⟨nb25, g25⟩ : ∃ z, z = h24.size := ⟨_, rfl⟩
      rw [← g25] at A25 st25
      refine own_st st25 ?_
      have g_nb25 : n0 ≤ nb25 := Nat.le_trans (Nat.le_trans Z0 K24.1) (Nat.le_of_eq g25.symm)
      have K25 : Keep h0 h25 [] := K24.ext E25
      have sz_nb25 : h0.size ≤ nb25 := Nat.le_trans K24.1 (Nat.le_of_eq g25.symm)
      have B25 := own_Bk.ext E25 B24
      have Sf25 := Safe.ext E25 (own_Bk.ch B24) (Safe.new (Nat.le_of_eq g25.symm))
      have V25 : Arv Z h25 nb25 k25 .char (1 : Int32) [(.int (0 : Int32))] (.int (0 : Int32)) := (Arv.new A25 (by decide)).pad (pad_rep [] (.int (0 : Int32)) 1)
      show own_Go p e below _ T25 (mkF m 27 #[.val (.int n), .val (.int c0), .val (.int c1)] [(.ref nb25), (.ref nb24), (.ref nb24)])
      refine own_st (fun t_ k_ => XS.dup X25.here hx rfl (hb hby d7_27) rfl rfl k_) ?_
      show own_Go p e below _ T25 (mkF m 28 #[.val (.int n), .val (.int c0), .val (.int c1)] [(.ref nb25), (.ref nb25), (.ref nb24), (.ref nb24)])
      refine own_st (fun t_ k_ => XS.iconst X25.here hx rfl (hb hby d7_28) k_) ?_
      show own_Go p e below _ T25 (mkF m 29 #[.val (.int n), .val (.int c0), .val (.int c1)] [(.int (0 : Int32)), (.ref nb25), (.ref nb25), (.ref nb24), (.ref nb24)])
      refine own_st (fun t_ k_ => XS.iloadN X25.here hx rfl (hb hby d7_29) rfl k_) ?_
      show own_Go p e below _ T25 (mkF m 30 #[.val (.int n), .val (.int c0), .val (.int c1)] [(.int c0), (.int (0 : Int32)), (.ref nb25), (.ref nb25), (.ref nb24), (.ref nb24)])
      obtain ⟨cl26, Ar26, q26, S26, N26', H26, G26⟩ := V25
      have hin26 : ¬ ((0 : Int32) < 0 ∨ cl26.slots.size ≤ ((0 : Int32)).toNatClampNeg) := inb_of S26 ⟨by decide, by decide⟩
      obtain ⟨T26, h26, X26, e26, W26, st26⟩ := stC X25 hx hZ e25 Ar26 (j := (0 : Int32)) hin26 (g := (mkF m 30 #[.val (.int n), .val (.int c0), .val (.int c1)] [(.int c0), (.int (0 : Int32)), (.ref nb25), (.ref nb25), (.ref nb24), (.ref nb24)])) rfl rfl (hb hby d7_30)
      have V26 : Arv Z h26 nb25 k25 .char (1 : Int32) [(.int (nar .char c0))] (.int (0 : Int32)) := Arv.set Ar26 q26 S26 N26' H26 G26 (fits_nar_char _) W26 0 rfl (Nat.le_of_ble_eq_true rfl)
      refine own_st st26 ?_
      have Sw26 := Sf25
      have B26 := own_Bk.wr W26 Sw26 B25
      have N26 := Fr.snoc X26 N0 g_nb25
      have K26 : Keep h0 h26 [] := K25.wr W26 (Or.inr sz_nb25)
      show own_Go p e below _ T26 (mkF m 31 #[.val (.int n), .val (.int c0), .val (.int c1)] [(.ref nb25), (.ref nb24), (.ref nb24)])
      have hp27 : ∀ c ∈ ([(nar .char c0)] : List Int32), ¬ c < 0 ∧ ¬ (255 : Int32) < c := (own_lcons (own_LLN h0L) own_lnil)
      have f28 := (Exa.ext E25 A24)
      have f29 := (Exa.wr W26 f28)
      have f30 := (Fld.ext E25 F24_value)
      have ne31 : nb24 ≠ nb25 := (Nat.ne_of_lt (Nat.lt_of_lt_of_le A24.lt (Nat.le_of_eq g25.symm)))
      have f32 := (Fld.other W26 f30 (Or.inl ne31))
      have f33 := (Fld.ext E25 F24_coder)
      have f34 := (Fld.other W26 f33 (Or.inl ne31))
      have f35 := (O0.ext E24)
      have f36 := (f35.ext E25)
      have f37 := (f36.wr W26 g_nb25)
      refine own_callN X26 hx (y := (⟨"java/lang/String", "<init>", "([C)V"⟩ : MethodName)) rfl hown (mvT hZ (hw _ (List.mem_of_getElem? (i := 40) rfl))) (mvT hZ (hw _ (List.mem_of_getElem? (i := 41) rfl))) (mvT hZ (hw _ (List.mem_of_getElem? (i := 42) rfl))) (by decide) (StrChars.Road.backV (W := 1) hZ (own_words hw) (kI := 4) (hw _ (List.mem_of_getElem? (i := 18) rfl)) (cs := ([(nar .char c0)] : List Int32)) (bs := ([(nar .char c0)] : List Int32).map (fun c => c.toInt8.toInt32)) (n := 1) g_nb24 (Nat.le_trans Z0 K26.1) f29 f32 f34 V26 (Sta.ext f37.2 SC) hCS rfl rfl (by decide) (by decide) hp27 rfl (by decide) (by decide)) (a := nb24) (g := (mkF m 31 #[.val (.int n), .val (.int c0), .val (.int c1)] [(.ref nb25), (.ref nb24), (.ref nb24)])) rfl (by rw [hml]; rfl) (argsL := [(.ref nb25)]) (rest := [(.ref nb24)]) (lenOf pd_4 rfl) rfl (by show 2 * 0 + _ ≤ _; exact Nat.le_of_eq rfl) (hb hby d7_31) rfl e26 (by decide) (by decide) ?_
      rintro v27 T27 L27 X27 ⟨rfl, Nq27, Kq27, Eq27, Cq27, t27, kb27, g_t27, gt27, nt27, Vq27, Aq27⟩
      have sz_t27 : h0.size ≤ t27 := Nat.le_trans K26.1 gt27
      have N27 := Fr.app N26 Nq27
      have K27 : Keep h0 T27.heap [] := K26.trans Kq27 (allS (Or.inr sz_nb24) all0)
      have f38 := (Safe.ext E25 (own_Bk.ch B24) Sf24)
      have f39 := (Safe.wr W26 Sw26 (own_Bk.ch B25) f38)
      have B27 := own_Bk.keep Kq27 (sfS f39 sf0) B26
      show own_Go p e below _ T27 (mkF m 34 #[.val (.int n), .val (.int c0), .val (.int c1)] [(.ref nb24)])
      have ecs : own_mk n c0 c1 = ([(nar .char c0)] : List Int32) := by simp [own_mk, own_LN h0L, own_LN h1L, hf1, hf17]
      refine own_retAS X27 hx hlk hZ hEL rfl hh B27 Bd.returns rfl rfl (hb hby d7_34) ?_ (by decide) (by decide)
      show QM Z (own_mk n c0 c1) h0 n0 _ T27.heap _
      exact ⟨nb24, t27, kb27, rfl, N27, K27, sz_nb24, g_nb24, nt27, Eq27, Cq27, Vq27, by rw [ecs]; exact Aq27, by rw [ecs]; exact hp27⟩
    · refine own_st (fun t_ k_ => XS.icmpYes X0.here hx rfl (pc0 := 17) (pc' := 35) rfl (hb hby d7_17) rfl (feq hf17).2 (by decide) (by decide) k_) ?_
      show own_Go p e below _ s₁ (mkF m 35 #[.val (.int n), .val (.int c0), .val (.int c1)] [])
      obtain ⟨T1, h1, X1, e1, E1, A1, D1, cel1, st1⟩ := newO X0 hx hZ hown (hw _ (List.mem_of_getElem? (i := 38) rfl)) (hw _ (List.mem_of_getElem? (i := 18) rfl)) (hw _ (List.mem_of_getElem? (i := 10) rfl)) e0 (g := (mkF m 35 #[.val (.int n), .val (.int c0), .val (.int c1)] [])) rfl (hb hby d7_35) (by decide) (by decide)
      obtain ⟨nb1, g1⟩ : ∃ z, z = h0.size := ⟨_, rfl⟩
      rw [← g1] at A1 D1 cel1 st1
      refine own_st st1 ?_
      have g_nb1 : n0 ≤ nb1 := Nat.le_trans (Nat.le_trans Z0 (Keep.refl h0 []).1) (Nat.le_of_eq g1.symm)
      have K1 : Keep h0 h1 [] := (Keep.refl h0 []).ext E1
      have sz_nb1 : h0.size ≤ nb1 := Nat.le_trans (Keep.refl h0 []).1 (Nat.le_of_eq g1.symm)
      have B1 := own_Bk.ext E1 B0
      have Sf1 := Safe.ext E1 (own_Bk.ch B0) (Safe.new (Nat.le_of_eq g1.symm))
      have F1_value : Fld Z h1 nb1 "java/lang/String" "value" "[B" .null := D1 (Or.inr (hw _ (List.mem_of_getElem? (i := 31) rfl))) (ty := (.array .byte)) (by decide)
      have F1_coder : Fld Z h1 nb1 "java/lang/String" "coder" "B" (.int (0 : Int32)) := D1 (Or.inr (hw _ (List.mem_of_getElem? (i := 33) rfl))) (ty := .byte) (by decide)
      show own_Go p e below _ T1 (mkF m 38 #[.val (.int n), .val (.int c0), .val (.int c1)] [(.ref nb1)])
      refine own_st (fun t_ k_ => XS.dup X1.here hx rfl (hb hby d7_38) rfl rfl k_) ?_
      show own_Go p e below _ T1 (mkF m 39 #[.val (.int n), .val (.int c0), .val (.int c1)] [(.ref nb1), (.ref nb1)])
      refine own_st (fun t_ k_ => XS.iconst X1.here hx rfl (hb hby d7_39) k_) ?_
      show own_Go p e below _ T1 (mkF m 40 #[.val (.int n), .val (.int c0), .val (.int c1)] [(.int (2 : Int32)), (.ref nb1), (.ref nb1)])
      obtain ⟨T2, h2, k2, X2, e2, E2, A2, st2⟩ := newP X1 hx hZ (hw _ (List.mem_of_getElem? (i := 39) rfl)) e1 (g := (mkF m 40 #[.val (.int n), .val (.int c0), .val (.int c1)] [(.int (2 : Int32)), (.ref nb1), (.ref nb1)])) rfl (hb hby d7_40) rfl (by decide) (cap := 2) (by decide) (by decide) (by decide) (by decide)
      obtain ⟨nb2, g2⟩ : ∃ z, z = h1.size := ⟨_, rfl⟩
      rw [← g2] at A2 st2
      refine own_st st2 ?_
      have g_nb2 : n0 ≤ nb2 := Nat.le_trans (Nat.le_trans Z0 K1.1) (Nat.le_of_eq g2.symm)
      have K2 : Keep h0 h2 [] := K1.ext E2
      have sz_nb2 : h0.size ≤ nb2 := Nat.le_trans K1.1 (Nat.le_of_eq g2.symm)
      have B2 := own_Bk.ext E2 B1
      have Sf2 := Safe.ext E2 (own_Bk.ch B1) (Safe.new (Nat.le_of_eq g2.symm))
      have V2 : Arv Z h2 nb2 k2 .char (2 : Int32) [(.int (0 : Int32)), (.int (0 : Int32))] (.int (0 : Int32)) := (Arv.new A2 (by decide)).pad (pad_rep [] (.int (0 : Int32)) 2)
      show own_Go p e below _ T2 (mkF m 42 #[.val (.int n), .val (.int c0), .val (.int c1)] [(.ref nb2), (.ref nb1), (.ref nb1)])
      refine own_st (fun t_ k_ => XS.dup X2.here hx rfl (hb hby d7_42) rfl rfl k_) ?_
      show own_Go p e below _ T2 (mkF m 43 #[.val (.int n), .val (.int c0), .val (.int c1)] [(.ref nb2), (.ref nb2), (.ref nb1), (.ref nb1)])
      refine own_st (fun t_ k_ => XS.iconst X2.here hx rfl (hb hby d7_43) k_) ?_
      show own_Go p e below _ T2 (mkF m 44 #[.val (.int n), .val (.int c0), .val (.int c1)] [(.int (0 : Int32)), (.ref nb2), (.ref nb2), (.ref nb1), (.ref nb1)])
      refine own_st (fun t_ k_ => XS.iloadN X2.here hx rfl (hb hby d7_44) rfl k_) ?_
      show own_Go p e below _ T2 (mkF m 45 #[.val (.int n), .val (.int c0), .val (.int c1)] [(.int c0), (.int (0 : Int32)), (.ref nb2), (.ref nb2), (.ref nb1), (.ref nb1)])
      obtain ⟨cl3, Ar3, q3, S3, N3', H3, G3⟩ := V2
      have hin3 : ¬ ((0 : Int32) < 0 ∨ cl3.slots.size ≤ ((0 : Int32)).toNatClampNeg) := inb_of S3 ⟨by decide, by decide⟩
      obtain ⟨T3, h3, X3, e3, W3, st3⟩ := stC X2 hx hZ e2 Ar3 (j := (0 : Int32)) hin3 (g := (mkF m 45 #[.val (.int n), .val (.int c0), .val (.int c1)] [(.int c0), (.int (0 : Int32)), (.ref nb2), (.ref nb2), (.ref nb1), (.ref nb1)])) rfl rfl (hb hby d7_45)
      have V3 : Arv Z h3 nb2 k2 .char (2 : Int32) [(.int (nar .char c0)), (.int (0 : Int32))] (.int (0 : Int32)) := Arv.set Ar3 q3 S3 N3' H3 G3 (fits_nar_char _) W3 0 rfl (Nat.le_of_ble_eq_true rfl)
      refine own_st st3 ?_
      have Sw3 := Sf2
      have B3 := own_Bk.wr W3 Sw3 B2
      have N3 := Fr.snoc X3 N0 g_nb2
      have K3 : Keep h0 h3 [] := K2.wr W3 (Or.inr sz_nb2)
      show own_Go p e below _ T3 (mkF m 46 #[.val (.int n), .val (.int c0), .val (.int c1)] [(.ref nb2), (.ref nb1), (.ref nb1)])
      refine own_st (fun t_ k_ => XS.dup X3.here hx rfl (hb hby d7_46) rfl rfl k_) ?_
      show own_Go p e below _ T3 (mkF m 47 #[.val (.int n), .val (.int c0), .val (.int c1)] [(.ref nb2), (.ref nb2), (.ref nb1), (.ref nb1)])
      refine own_st (fun t_ k_ => XS.iconst X3.here hx rfl (hb hby d7_47) k_) ?_
      show own_Go p e below _ T3 (mkF m 48 #[.val (.int n), .val (.int c0), .val (.int c1)] [(.int (1 : Int32)), (.ref nb2), (.ref nb2), (.ref nb1), (.ref nb1)])
      refine own_st (fun t_ k_ => XS.iloadN X3.here hx rfl (hb hby d7_48) rfl k_) ?_
      show own_Go p e below _ T3 (mkF m 49 #[.val (.int n), .val (.int c0), .val (.int c1)] [(.int c1), (.int (1 : Int32)), (.ref nb2), (.ref nb2), (.ref nb1), (.ref nb1)])
      obtain ⟨cl4, Ar4, q4, S4, N4', H4, G4⟩ := V3
      have hin4 : ¬ ((1 : Int32) < 0 ∨ cl4.slots.size ≤ ((1 : Int32)).toNatClampNeg) := inb_of S4 ⟨by decide, by decide⟩
      obtain ⟨T4, h4, X4, e4, W4, st4⟩ := stC X3 hx hZ e3 Ar4 (j := (1 : Int32)) hin4 (g := (mkF m 49 #[.val (.int n), .val (.int c0), .val (.int c1)] [(.int c1), (.int (1 : Int32)), (.ref nb2), (.ref nb2), (.ref nb1), (.ref nb1)])) rfl rfl (hb hby d7_49)
      have V4 : Arv Z h4 nb2 k2 .char (2 : Int32) [(.int (nar .char c0)), (.int (nar .char c1))] (.int (0 : Int32)) := Arv.set Ar4 q4 S4 N4' H4 G4 (fits_nar_char _) W4 1 rfl (Nat.le_of_ble_eq_true rfl)
      refine own_st st4 ?_
      have f5 := (Safe.wr W3 Sw3 (own_Bk.ch B2) Sf2)
      have Sw4 := f5
      have B4 := own_Bk.wr W4 Sw4 B3
      have N4 := Fr.snoc X4 N3 g_nb2
      have K4 : Keep h0 h4 [] := K3.wr W4 (Or.inr sz_nb2)
      show own_Go p e below _ T4 (mkF m 50 #[.val (.int n), .val (.int c0), .val (.int c1)] [(.ref nb2), (.ref nb1), (.ref nb1)])
      have hp6 : ∀ c ∈ ([(nar .char c0), (nar .char c1)] : List Int32), ¬ c < 0 ∧ ¬ (255 : Int32) < c := (own_lcons (own_LLN h0L) (own_lcons (own_LLN h1L) own_lnil))
      have f7 := (Exa.ext E2 A1)
      have f8 := (Exa.wr W3 f7)
      have f9 := (Exa.wr W4 f8)
      have f10 := (Fld.ext E2 F1_value)
      have ne11 : nb1 ≠ nb2 := (Nat.ne_of_lt (Nat.lt_of_lt_of_le A1.lt (Nat.le_of_eq g2.symm)))
      have f12 := (Fld.other W3 f10 (Or.inl ne11))
      have f13 := (Fld.other W4 f12 (Or.inl ne11))
      have f14 := (Fld.ext E2 F1_coder)
      have f15 := (Fld.other W3 f14 (Or.inl ne11))
      have f16 := (Fld.other W4 f15 (Or.inl ne11))
      have f17 := (O0.ext E1)
      have f18 := (f17.ext E2)
      have f19 := (f18.wr W3 g_nb2)
      have f20 := (f19.wr W4 g_nb2)
      refine own_callN X4 hx (y := (⟨"java/lang/String", "<init>", "([C)V"⟩ : MethodName)) rfl hown (mvT hZ (hw _ (List.mem_of_getElem? (i := 40) rfl))) (mvT hZ (hw _ (List.mem_of_getElem? (i := 41) rfl))) (mvT hZ (hw _ (List.mem_of_getElem? (i := 42) rfl))) (by decide) (StrChars.Road.backV (W := 1) hZ (own_words hw) (kI := 4) (hw _ (List.mem_of_getElem? (i := 18) rfl)) (cs := ([(nar .char c0), (nar .char c1)] : List Int32)) (bs := ([(nar .char c0), (nar .char c1)] : List Int32).map (fun c => c.toInt8.toInt32)) (n := 2) g_nb1 (Nat.le_trans Z0 K4.1) f9 f13 f16 V4 (Sta.ext f20.2 SC) hCS rfl rfl (by decide) (by decide) hp6 rfl (by decide) (by decide)) (a := nb1) (g := (mkF m 50 #[.val (.int n), .val (.int c0), .val (.int c1)] [(.ref nb2), (.ref nb1), (.ref nb1)])) rfl (by rw [hml]; rfl) (argsL := [(.ref nb2)]) (rest := [(.ref nb1)]) (lenOf pd_4 rfl) rfl (by show 2 * 0 + _ ≤ _; exact Nat.le_of_eq rfl) (hb hby d7_50) rfl e4 (by decide) (by decide) ?_
      rintro v6 T6 L6 X6 ⟨rfl, Nq6, Kq6, Eq6, Cq6, t6, kb6, g_t6, gt6, nt6, Vq6, Aq6⟩
      have sz_t6 : h0.size ≤ t6 := Nat.le_trans K4.1 gt6
      have N6 := Fr.app N4 Nq6
      have K6 : Keep h0 T6.heap [] := K4.trans Kq6 (allS (Or.inr sz_nb1) all0)
      have f21 := (Safe.ext E2 (own_Bk.ch B1) Sf1)
      have f22 := (Safe.wr W3 Sw3 (own_Bk.ch B2) f21)
      have f23 := (Safe.wr W4 Sw4 (own_Bk.ch B3) f22)
      have B6 := own_Bk.keep Kq6 (sfS f23 sf0) B4
      show own_Go p e below _ T6 (mkF m 53 #[.val (.int n), .val (.int c0), .val (.int c1)] [(.ref nb1)])
      have ecs : own_mk n c0 c1 = ([(nar .char c0), (nar .char c1)] : List Int32) := by simp [own_mk, own_LN h0L, own_LN h1L, hf1, hf17]
      refine own_retAS X6 hx hlk hZ hEL rfl hh B6 Bd.returns rfl rfl (hb hby d7_53) ?_ (by decide) (by decide)
      show QM Z (own_mk n c0 c1) h0 n0 _ T6.heap _
      exact ⟨nb1, t6, kb6, rfl, N6, K6, sz_nb1, g_nb1, nt6, Eq6, Cq6, Vq6, by rw [ecs]; exact Aq6, by rw [ecs]; exact hp6⟩
def QN0 (h0 : Heap) (n0 : Nat) (v : Option Value) (h : Heap) (L : List Loc) : Prop := v = none ∧ Fr n0 L ∧ h = h0
theorem d8_0 : decode jdk_30_method_1_code 0 = .ok (.aload_n 0, 1) := by decide +kernel
theorem d8_1 : decode jdk_30_method_1_code 1 = .ok (.invokespecial 1, 3) := by decide +kernel
theorem d8_4 : decode jdk_30_method_1_code 4 = .ok (.return_, 1) := by decide +kernel
theorem pn_3 : plainName "java/lang/Record" = true := by first | (simp [plainName, overriddenIn]; done) | decide +kernel
theorem ef_rmRE (m : MethodId) (x0 : Addr) : entryFrame m #[(.ref x0)] 1 = mkF m 0 #[.val (.ref x0)] [] := by first | (simp [entryFrame, mkF, argsToLocals, Value.category]; done) | rfl
set_option maxRecDepth 65536 in
set_option maxHeartbeats 40000000 in
theorem rmRE (l : Launch) (Z : State) (a0 : Array Value) (hw : ∀ d ∈ tables_1, d.before a0 Z = true) (ws : List Jvm.Cond) (a : Addr) (h0 : Heap) (n0 : Nat) (Z0 : n0 ≤ h0.size) :
    MetFree l (⟨"java/lang/Record", "<init>", "()V"⟩ : MethodName) (head1 (Jvm.Cond.code (⟨"java/lang/Record", "<init>", "()V"⟩ : MethodName) jdk_30_method_1_code 1 none :: ws) ({ frames := 1, cells := 0, slots := 0, locals := 12 } : Room)) (fun a_ U_ => a_ = #[(.ref a)] ∧ Z.Warmed39 U_.vm ∧ U_.heap = h0) (fun _ _ _ _ _ => True) (fun _ U_ o_ U'_ => ∃ v_ L_, o_ = .returned v_ ∧ QN0 h0 n0 v_ U'_.heap L_ ∧ FrameEnd U_ o_ U'_ L_ ({ frames := 1, cells := 0, slots := 0, locals := 12 } : Room).cells ({ frames := 1, cells := 0, slots := 0, locals := 12 } : Room).slots) := by
  refine MetFree.of_bodySF (plainFor_of_name pn_3) hisR ?_
  intro p e s m args below meth c s₁ Bd hml0 hP hK
  obtain ⟨rfl, hZ, hh⟩ := hP
  have hx := Bd.exec
  have hby := Bd.bytes
  have hml : c.maxLocals = 1 := hml0
  have hown : s.vm.findClass "java/lang/Record" = some m.cls := findClass_of_methodNamed Bd.named
  have hnm := (name_of_methodNamed Bd.named Bd.method).1
  have hlk := BodyLoose.notSynchronized Bd
  have X0 : Stand p l e ({ frames := 1, cells := 0, slots := 0, locals := 12 } : Room) s m #[(.ref a)] below meth c s₁ [] 0 0 := Stand.of_body Bd
  have e0 : s₁.heap = h0 := by rw [← hh, Bd.state]; rfl
  have N0 := Fr.nil n0
  refine own_entry (P := own_End s (QN0 h0 n0) ({ frames := 1, cells := 0, slots := 0, locals := 12 } : Room).cells ({ frames := 1, cells := 0, slots := 0, locals := 12 } : Room).slots) (ef_rmRE m a) ?_
  show own_Go p e below _ s₁ (mkF m 0 #[.val (.ref a)] [])
  refine own_st (fun t_ k_ => XS.aloadN X0.here hx rfl (hb hby d8_0) rfl rfl k_) ?_
  show own_Go p e below _ s₁ (mkF m 1 #[.val (.ref a)] [(.ref a)])
  obtain ⟨T1, X1, e1, st1⟩ := initO X0 hx hZ hown (hw _ (List.mem_of_getElem? (i := 57) rfl)) (hw _ (List.mem_of_getElem? (i := 28) rfl)) (hw _ (List.mem_of_getElem? (i := 29) rfl)) e0 (g := (mkF m 1 #[.val (.ref a)] [(.ref a)])) rfl (by rw [hml]; rfl) rfl (hb hby d8_1) (by decide) (W := 0) (by show 2 * 0 + _ ≤ _; exact Nat.le_of_eq rfl) (by decide)
  refine own_st st1 ?_
  show own_Go p e below _ T1 (mkF m 4 #[.val (.ref a)] [])
  refine own_ret0 X1 hx hlk Bd.returns (hb hby d8_4) ?_ (by decide) (by decide)
  show QN0 h0 n0 _ T1.heap _
  rw [e1]
  exact ⟨rfl, N0, rfl⟩
def QC (Z : State) (a kd nm : Addr) (h0 : Heap) (n0 : Nat) (v : Option Value) (h : Heap) (L : List Loc) : Prop := v = none ∧ Fr n0 L ∧ Keep h0 h [a] ∧ Exa Z h a "com/example/gentle_nudge/gentlenudge/server/ChannelOwner" ∧ Fld Z h a "com/example/gentle_nudge/gentlenudge/server/ChannelOwner" "kind" "Lcom/example/gentle_nudge/gentlenudge/server/AccountKind;" (.ref kd) ∧ Fld Z h a "com/example/gentle_nudge/gentlenudge/server/ChannelOwner" "name" "Ljava/lang/String;" (.ref nm)
theorem d9_0 : decode prog_12_method_1_code 0 = .ok (.aload_n 0, 1) := by decide +kernel
theorem d9_1 : decode prog_12_method_1_code 1 = .ok (.invokespecial 1, 3) := by decide +kernel
theorem pd_5 : parseMethodDescriptor "()V" = some ⟨[], none⟩ := by decide +kernel
theorem d9_4 : decode prog_12_method_1_code 4 = .ok (.aload_n 0, 1) := by decide +kernel
theorem d9_5 : decode prog_12_method_1_code 5 = .ok (.aload_n 1, 1) := by decide +kernel
theorem d9_6 : decode prog_12_method_1_code 6 = .ok (.putfield 7, 3) := by decide +kernel
theorem d9_9 : decode prog_12_method_1_code 9 = .ok (.aload_n 0, 1) := by decide +kernel
theorem d9_10 : decode prog_12_method_1_code 10 = .ok (.aload_n 2, 1) := by decide +kernel
theorem d9_11 : decode prog_12_method_1_code 11 = .ok (.putfield 13, 3) := by decide +kernel
theorem d9_14 : decode prog_12_method_1_code 14 = .ok (.aload_n 0, 1) := by decide +kernel
theorem d9_15 : decode prog_12_method_1_code 15 = .ok (.aload_n 3, 1) := by decide +kernel
theorem d9_16 : decode prog_12_method_1_code 16 = .ok (.putfield 17, 3) := by decide +kernel
theorem d9_19 : decode prog_12_method_1_code 19 = .ok (.return_, 1) := by decide +kernel
theorem pn_4 : plainName "com/example/gentle_nudge/gentlenudge/server/ChannelOwner" = true := by first | (simp [plainName, overriddenIn]; done) | decide +kernel
theorem ef_rmCI (m : MethodId) (x0 : Addr) (x1 : Addr) (x2 : Addr) (x3 : Addr) : entryFrame m #[(.ref x0), (.ref x1), (.ref x2), (.ref x3)] 4 = mkF m 0 #[.val (.ref x0), .val (.ref x1), .val (.ref x2), .val (.ref x3)] [] := by first | (simp [entryFrame, mkF, argsToLocals, Value.category]; done) | rfl
set_option maxRecDepth 65536 in
set_option maxHeartbeats 40000000 in
theorem rmCI (l : Launch) (Z : State) (a0 : Array Value) (hw : ∀ d ∈ tables_1, d.before a0 Z = true) (ws : List Jvm.Cond) (a cl kd nm : Addr) (h0 : Heap) (n0 : Nat) (Z0 : n0 ≤ h0.size) (g_a : n0 ≤ a) (Ea : Exa Z h0 a "com/example/gentle_nudge/gentlenudge/server/ChannelOwner") (F0 : Fld Z h0 a "com/example/gentle_nudge/gentlenudge/server/ChannelOwner" "client" "Ljava/lang/String;" .null) (F1 : Fld Z h0 a "com/example/gentle_nudge/gentlenudge/server/ChannelOwner" "kind" "Lcom/example/gentle_nudge/gentlenudge/server/AccountKind;" .null) (F2 : Fld Z h0 a "com/example/gentle_nudge/gentlenudge/server/ChannelOwner" "name" "Ljava/lang/String;" .null) :
    MetFree l (⟨"com/example/gentle_nudge/gentlenudge/server/ChannelOwner", "<init>", "(Ljava/lang/String;Lcom/example/gentle_nudge/gentlenudge/server/AccountKind;Ljava/lang/String;)V"⟩ : MethodName) (head1 (Jvm.Cond.code (⟨"com/example/gentle_nudge/gentlenudge/server/ChannelOwner", "<init>", "(Ljava/lang/String;Lcom/example/gentle_nudge/gentlenudge/server/AccountKind;Ljava/lang/String;)V"⟩ : MethodName) prog_12_method_1_code 4 none :: ws) ({ frames := 2, cells := 0, slots := 0, locals := 24 } : Room)) (fun a_ U_ => a_ = #[(.ref a), (.ref cl), (.ref kd), (.ref nm)] ∧ Z.Warmed39 U_.vm ∧ U_.heap = h0) (fun _ _ _ _ _ => True) (fun _ U_ o_ U'_ => ∃ v_ L_, o_ = .returned v_ ∧ QC Z a kd nm h0 n0 v_ U'_.heap L_ ∧ FrameEnd U_ o_ U'_ L_ ({ frames := 2, cells := 0, slots := 0, locals := 24 } : Room).cells ({ frames := 2, cells := 0, slots := 0, locals := 24 } : Room).slots) := by
  refine MetFree.of_bodySF (plainFor_of_name pn_4) hisR ?_
  intro p e s m args below meth c s₁ Bd hml0 hP hK
  obtain ⟨rfl, hZ, hh⟩ := hP
  have hx := Bd.exec
  have hby := Bd.bytes
  have hml : c.maxLocals = 4 := hml0
  have hown : s.vm.findClass "com/example/gentle_nudge/gentlenudge/server/ChannelOwner" = some m.cls := findClass_of_methodNamed Bd.named
  have hnm := (name_of_methodNamed Bd.named Bd.method).1
  have hlk := BodyLoose.notSynchronized Bd
  have X0 : Stand p l e ({ frames := 2, cells := 0, slots := 0, locals := 24 } : Room) s m #[(.ref a), (.ref cl), (.ref kd), (.ref nm)] below meth c s₁ [] 0 0 := Stand.of_body Bd
  have e0 : s₁.heap = h0 := by rw [← hh, Bd.state]; rfl
  have N0 := Fr.nil n0
  refine own_entry (P := own_End s (QC Z a kd nm h0 n0) ({ frames := 2, cells := 0, slots := 0, locals := 24 } : Room).cells ({ frames := 2, cells := 0, slots := 0, locals := 24 } : Room).slots) (ef_rmCI m a cl kd nm) ?_
  show own_Go p e below _ s₁ (mkF m 0 #[.val (.ref a), .val (.ref cl), .val (.ref kd), .val (.ref nm)] [])
  refine own_st (fun t_ k_ => XS.aloadN X0.here hx rfl (hb hby d9_0) rfl rfl k_) ?_
  show own_Go p e below _ s₁ (mkF m 1 #[.val (.ref a), .val (.ref cl), .val (.ref kd), .val (.ref nm)] [(.ref a)])
  refine own_callN X0 hx (y := (⟨"java/lang/Record", "<init>", "()V"⟩ : MethodName)) rfl hown (mvT hZ (hw _ (List.mem_of_getElem? (i := 52) rfl))) (mvT hZ (hw _ (List.mem_of_getElem? (i := 53) rfl))) (mvT hZ (hw _ (List.mem_of_getElem? (i := 56) rfl))) (by decide) (backOf (W := 0) (rmRE l Z a0 hw [] a h0 n0 (Nat.le_trans Z0 (Keep.refl h0 [a]).1)) hZ (hw _ (List.mem_of_getElem? (i := 56) rfl)) (hw _ (List.mem_of_getElem? (i := 55) rfl)) (by decide) (by decide)) (a := a) (g := (mkF m 1 #[.val (.ref a), .val (.ref cl), .val (.ref kd), .val (.ref nm)] [(.ref a)])) rfl (by rw [hml]; rfl) (argsL := []) (rest := []) (lenOf pd_5 rfl) rfl (by show 2 * 0 + _ ≤ _; exact Nat.le_of_eq rfl) (hb hby d9_1) rfl e0 (by decide) (by decide) ?_
  rintro v1 T1 L1 X1 ⟨rfl, Nq1, hh1⟩
  have N1 := Fr.app N0 Nq1
  show own_Go p e below _ T1 (mkF m 4 #[.val (.ref a), .val (.ref cl), .val (.ref kd), .val (.ref nm)] [])
  refine own_st (fun t_ k_ => XS.aloadN X1.here hx rfl (hb hby d9_4) rfl rfl k_) ?_
  show own_Go p e below _ T1 (mkF m 5 #[.val (.ref a), .val (.ref cl), .val (.ref kd), .val (.ref nm)] [(.ref a)])
  refine own_st (fun t_ k_ => XS.aloadN X1.here hx rfl (hb hby d9_5) rfl rfl k_) ?_
  show own_Go p e below _ T1 (mkF m 6 #[.val (.ref a), .val (.ref cl), .val (.ref kd), .val (.ref nm)] [(.ref cl), (.ref a)])
  obtain ⟨T2, h2, X2, e2, W2, st2⟩ := putF X1 hx hZ hown (host := "") (Or.inl (hw _ (List.mem_of_getElem? (i := 58) rfl))) Via.refl hh1 F0 Ea (Or.inr ⟨(hw _ (List.mem_of_getElem? (i := 59) rfl)), rfl, hnm⟩) (hw _ (List.mem_of_getElem? (i := 6) rfl)) (ty := (.object "java/lang/String")) (by decide) rfl rfl (g := (mkF m 6 #[.val (.ref a), .val (.ref cl), .val (.ref kd), .val (.ref nm)] [(.ref cl), (.ref a)])) rfl rfl (hb hby d9_6)
  refine own_st st2 ?_
  have N2 := Fr.snoc X2 N1 g_a
  have K2 : Keep h0 h2 [a] := (Keep.refl h0 [a]).wr W2 (Or.inl (List.mem_of_getElem? (i := 0) rfl))
  have Fw2 := Fld.same W2 F0
  show own_Go p e below _ T2 (mkF m 9 #[.val (.ref a), .val (.ref cl), .val (.ref kd), .val (.ref nm)] [])
  refine own_st (fun t_ k_ => XS.aloadN X2.here hx rfl (hb hby d9_9) rfl rfl k_) ?_
  show own_Go p e below _ T2 (mkF m 10 #[.val (.ref a), .val (.ref cl), .val (.ref kd), .val (.ref nm)] [(.ref a)])
  refine own_st (fun t_ k_ => XS.aloadN X2.here hx rfl (hb hby d9_10) rfl rfl k_) ?_
  show own_Go p e below _ T2 (mkF m 11 #[.val (.ref a), .val (.ref cl), .val (.ref kd), .val (.ref nm)] [(.ref kd), (.ref a)])
  have f4 := (Fld.other W2 F1 (Or.inr (slot_ne (Or.inr (hw _ (List.mem_of_getElem? (i := 61) rfl))) (Or.inr (hw _ (List.mem_of_getElem? (i := 59) rfl))) (by decide) (t := (.object "com/example/gentle_nudge/gentlenudge/server/AccountKind")) (t' := (.object "java/lang/String")) (by decide) (by decide))))
  have f5 := (Exa.wr W2 Ea)
  obtain ⟨T3, h3, X3, e3, W3, st3⟩ := putF X2 hx hZ hown (host := "") (Or.inl (hw _ (List.mem_of_getElem? (i := 60) rfl))) Via.refl e2 f4 f5 (Or.inr ⟨(hw _ (List.mem_of_getElem? (i := 61) rfl)), rfl, hnm⟩) (hw _ (List.mem_of_getElem? (i := 6) rfl)) (ty := (.object "com/example/gentle_nudge/gentlenudge/server/AccountKind")) (by decide) rfl rfl (g := (mkF m 11 #[.val (.ref a), .val (.ref cl), .val (.ref kd), .val (.ref nm)] [(.ref kd), (.ref a)])) rfl rfl (hb hby d9_11)
  refine own_st st3 ?_
  have N3 := Fr.snoc X3 N2 g_a
  have K3 : Keep h0 h3 [a] := K2.wr W3 (Or.inl (List.mem_of_getElem? (i := 0) rfl))
  have Fw3 := Fld.same W3 f4
  show own_Go p e below _ T3 (mkF m 14 #[.val (.ref a), .val (.ref cl), .val (.ref kd), .val (.ref nm)] [])
  refine own_st (fun t_ k_ => XS.aloadN X3.here hx rfl (hb hby d9_14) rfl rfl k_) ?_
  show own_Go p e below _ T3 (mkF m 15 #[.val (.ref a), .val (.ref cl), .val (.ref kd), .val (.ref nm)] [(.ref a)])
  refine own_st (fun t_ k_ => XS.aloadN X3.here hx rfl (hb hby d9_15) rfl rfl k_) ?_
  show own_Go p e below _ T3 (mkF m 16 #[.val (.ref a), .val (.ref cl), .val (.ref kd), .val (.ref nm)] [(.ref nm), (.ref a)])
  have f7 := (Fld.other W2 F2 (Or.inr (slot_ne (Or.inr (hw _ (List.mem_of_getElem? (i := 63) rfl))) (Or.inr (hw _ (List.mem_of_getElem? (i := 59) rfl))) (by decide) (t := (.object "java/lang/String")) (t' := (.object "java/lang/String")) (by decide) (by decide))))
  have f8 := (Fld.other W3 f7 (Or.inr (slot_ne (Or.inr (hw _ (List.mem_of_getElem? (i := 63) rfl))) (Or.inr (hw _ (List.mem_of_getElem? (i := 61) rfl))) (by decide) (t := (.object "java/lang/String")) (t' := (.object "com/example/gentle_nudge/gentlenudge/server/AccountKind")) (by decide) (by decide))))
  have f9 := (Exa.wr W3 f5)
  obtain ⟨T6, h6, X6, e6, W6, st6⟩ := putF X3 hx hZ hown (host := "") (Or.inl (hw _ (List.mem_of_getElem? (i := 62) rfl))) Via.refl e3 f8 f9 (Or.inr ⟨(hw _ (List.mem_of_getElem? (i := 63) rfl)), rfl, hnm⟩) (hw _ (List.mem_of_getElem? (i := 6) rfl)) (ty := (.object "java/lang/String")) (by decide) rfl rfl (g := (mkF m 16 #[.val (.ref a), .val (.ref cl), .val (.ref kd), .val (.ref nm)] [(.ref nm), (.ref a)])) rfl rfl (hb hby d9_16)
  refine own_st st6 ?_
  have N6 := Fr.snoc X6 N3 g_a
  have K6 : Keep h0 h6 [a] := K3.wr W6 (Or.inl (List.mem_of_getElem? (i := 0) rfl))
  have Fw6 := Fld.same W6 f8
  show own_Go p e below _ T6 (mkF m 19 #[.val (.ref a), .val (.ref cl), .val (.ref kd), .val (.ref nm)] [])
  have f10 := (Exa.wr W6 f9)
  have f11 := (Fld.other W6 Fw3 (Or.inr (slot_ne (Or.inr (hw _ (List.mem_of_getElem? (i := 61) rfl))) (Or.inr (hw _ (List.mem_of_getElem? (i := 63) rfl))) (by decide) (t := (.object "com/example/gentle_nudge/gentlenudge/server/AccountKind")) (t' := (.object "java/lang/String")) (by decide) (by decide))))
  refine own_ret0 X6 hx hlk Bd.returns (hb hby d9_19) ?_ (by decide) (by decide)
  show QC Z a kd nm h0 n0 _ T6.heap _
  rw [e6]
  exact ⟨rfl, N6, K6, f10, f11, Fw6⟩
theorem d10_0 : decode prog_12_method_7_code 0 = .ok (.aload_n 0, 1) := by decide +kernel
theorem d10_1 : decode prog_12_method_7_code 1 = .ok (.getfield 13, 3) := by decide +kernel
theorem d10_4 : decode prog_12_method_7_code 4 = .ok (.areturn, 1) := by decide +kernel
theorem ef_rmKD (m : MethodId) (x0 : Addr) : entryFrame m #[(.ref x0)] 1 = mkF m 0 #[.val (.ref x0)] [] := by first | (simp [entryFrame, mkF, argsToLocals, Value.category]; done) | rfl
set_option maxRecDepth 65536 in
set_option maxHeartbeats 40000000 in
theorem rmKD (l : Launch) (Z : State) (a0 : Array Value) (hw : ∀ d ∈ tables_1, d.before a0 Z = true) (ws : List Jvm.Cond) (a kd : Addr) (h0 : Heap) (n0 : Nat) (Z0 : n0 ≤ h0.size) (F : Fld Z h0 a "com/example/gentle_nudge/gentlenudge/server/ChannelOwner" "kind" "Lcom/example/gentle_nudge/gentlenudge/server/AccountKind;" (.ref kd)) :
    MetFree l (⟨"com/example/gentle_nudge/gentlenudge/server/ChannelOwner", "kind", "()Lcom/example/gentle_nudge/gentlenudge/server/AccountKind;"⟩ : MethodName) (head1 (Jvm.Cond.code (⟨"com/example/gentle_nudge/gentlenudge/server/ChannelOwner", "kind", "()Lcom/example/gentle_nudge/gentlenudge/server/AccountKind;"⟩ : MethodName) prog_12_method_7_code 1 (some (.object "com/example/gentle_nudge/gentlenudge/server/AccountKind")) :: ws) ({ frames := 0, cells := 0, slots := 0, locals := 0 } : Room)) (fun a_ U_ => a_ = #[(.ref a)] ∧ Z.Warmed39 U_.vm ∧ U_.heap = h0) (fun _ _ _ _ _ => True) (fun _ U_ o_ U'_ => ∃ v_ L_, o_ = .returned v_ ∧ QR (.ref kd) h0 n0 v_ U'_.heap L_ ∧ FrameEnd U_ o_ U'_ L_ ({ frames := 0, cells := 0, slots := 0, locals := 0 } : Room).cells ({ frames := 0, cells := 0, slots := 0, locals := 0 } : Room).slots) := by
  refine MetFree.of_bodySF (plainFor_of_name pn_4) hisR ?_
  intro p e s m args below meth c s₁ Bd hml0 hP hK
  obtain ⟨rfl, hZ, hh⟩ := hP
  have hx := Bd.exec
  have hby := Bd.bytes
  have hml : c.maxLocals = 1 := hml0
  have hown : s.vm.findClass "com/example/gentle_nudge/gentlenudge/server/ChannelOwner" = some m.cls := findClass_of_methodNamed Bd.named
  have hnm := (name_of_methodNamed Bd.named Bd.method).1
  have hlk := BodyLoose.notSynchronized Bd
  have X0 : Stand p l e ({ frames := 0, cells := 0, slots := 0, locals := 0 } : Room) s m #[(.ref a)] below meth c s₁ [] 0 0 := Stand.of_body Bd
  have e0 : s₁.heap = h0 := by rw [← hh, Bd.state]; rfl
  have N0 := Fr.nil n0
  refine own_entry (P := own_End s (QR (.ref kd) h0 n0) ({ frames := 0, cells := 0, slots := 0, locals := 0 } : Room).cells ({ frames := 0, cells := 0, slots := 0, locals := 0 } : Room).slots) (ef_rmKD m a) ?_
  show own_Go p e below _ s₁ (mkF m 0 #[.val (.ref a)] [])
  refine own_st (fun t_ k_ => XS.aloadN X0.here hx rfl (hb hby d10_0) rfl rfl k_) ?_
  show own_Go p e below _ s₁ (mkF m 1 #[.val (.ref a)] [(.ref a)])
  obtain ⟨T1, X1, e1, st1⟩ := getF X0 hx hZ hown (host := "") (Or.inl (hw _ (List.mem_of_getElem? (i := 60) rfl))) Via.refl e0 F (g := (mkF m 1 #[.val (.ref a)] [(.ref a)])) rfl rfl (hb hby d10_1)
  refine own_st st1 ?_
  show own_Go p e below _ T1 (mkF m 4 #[.val (.ref a)] [(.ref kd)])
  refine own_retA X1 hx hlk Bd.returns rfl rfl (hb hby d10_4) ?_ (by decide) (by decide)
  show QR (.ref kd) h0 n0 _ T1.heap _
  rw [e1]
  exact ⟨rfl, N0, rfl⟩
theorem d11_0 : decode prog_12_method_8_code 0 = .ok (.aload_n 0, 1) := by decide +kernel
theorem d11_1 : decode prog_12_method_8_code 1 = .ok (.getfield 17, 3) := by decide +kernel
theorem d11_4 : decode prog_12_method_8_code 4 = .ok (.areturn, 1) := by decide +kernel
theorem ef_rmNM (m : MethodId) (x0 : Addr) : entryFrame m #[(.ref x0)] 1 = mkF m 0 #[.val (.ref x0)] [] := by first | (simp [entryFrame, mkF, argsToLocals, Value.category]; done) | rfl
set_option maxRecDepth 65536 in
set_option maxHeartbeats 40000000 in
theorem rmNM (l : Launch) (Z : State) (a0 : Array Value) (hw : ∀ d ∈ tables_1, d.before a0 Z = true) (ws : List Jvm.Cond) (a nm : Addr) (h0 : Heap) (n0 : Nat) (Z0 : n0 ≤ h0.size) (F : Fld Z h0 a "com/example/gentle_nudge/gentlenudge/server/ChannelOwner" "name" "Ljava/lang/String;" (.ref nm)) :
    MetFree l (⟨"com/example/gentle_nudge/gentlenudge/server/ChannelOwner", "name", "()Ljava/lang/String;"⟩ : MethodName) (head1 (Jvm.Cond.code (⟨"com/example/gentle_nudge/gentlenudge/server/ChannelOwner", "name", "()Ljava/lang/String;"⟩ : MethodName) prog_12_method_8_code 1 (some (.object "java/lang/String")) :: ws) ({ frames := 0, cells := 0, slots := 0, locals := 0 } : Room)) (fun a_ U_ => a_ = #[(.ref a)] ∧ Z.Warmed39 U_.vm ∧ U_.heap = h0) (fun _ _ _ _ _ => True) (fun _ U_ o_ U'_ => ∃ v_ L_, o_ = .returned v_ ∧ QR (.ref nm) h0 n0 v_ U'_.heap L_ ∧ FrameEnd U_ o_ U'_ L_ ({ frames := 0, cells := 0, slots := 0, locals := 0 } : Room).cells ({ frames := 0, cells := 0, slots := 0, locals := 0 } : Room).slots) := by
  refine MetFree.of_bodySF (plainFor_of_name pn_4) hisR ?_
  intro p e s m args below meth c s₁ Bd hml0 hP hK
  obtain ⟨rfl, hZ, hh⟩ := hP
  have hx := Bd.exec
  have hby := Bd.bytes
  have hml : c.maxLocals = 1 := hml0
  have hown : s.vm.findClass "com/example/gentle_nudge/gentlenudge/server/ChannelOwner" = some m.cls := findClass_of_methodNamed Bd.named
  have hnm := (name_of_methodNamed Bd.named Bd.method).1
  have hlk := BodyLoose.notSynchronized Bd
  have X0 : Stand p l e ({ frames := 0, cells := 0, slots := 0, locals := 0 } : Room) s m #[(.ref a)] below meth c s₁ [] 0 0 := Stand.of_body Bd
  have e0 : s₁.heap = h0 := by rw [← hh, Bd.state]; rfl
  have N0 := Fr.nil n0
  refine own_entry (P := own_End s (QR (.ref nm) h0 n0) ({ frames := 0, cells := 0, slots := 0, locals := 0 } : Room).cells ({ frames := 0, cells := 0, slots := 0, locals := 0 } : Room).slots) (ef_rmNM m a) ?_
  show own_Go p e below _ s₁ (mkF m 0 #[.val (.ref a)] [])
  refine own_st (fun t_ k_ => XS.aloadN X0.here hx rfl (hb hby d11_0) rfl rfl k_) ?_
  show own_Go p e below _ s₁ (mkF m 1 #[.val (.ref a)] [(.ref a)])
  obtain ⟨T1, X1, e1, st1⟩ := getF X0 hx hZ hown (host := "") (Or.inl (hw _ (List.mem_of_getElem? (i := 62) rfl))) Via.refl e0 F (g := (mkF m 1 #[.val (.ref a)] [(.ref a)])) rfl rfl (hb hby d11_1)
  refine own_st st1 ?_
  show own_Go p e below _ T1 (mkF m 4 #[.val (.ref a)] [(.ref nm)])
  refine own_retA X1 hx hlk Bd.returns rfl rfl (hb hby d11_4) ?_ (by decide) (by decide)
  show QR (.ref nm) h0 n0 _ T1.heap _
  rw [e1]
  exact ⟨rfl, N0, rfl⟩
theorem d12_0 : decode jdk_37_method_2_code 0 = .ok (.aload_n 0, 1) := by decide +kernel
theorem d12_1 : decode jdk_37_method_2_code 1 = .ok (.getfield 7, 3) := by decide +kernel
theorem d12_4 : decode jdk_37_method_2_code 4 = .ok (.ireturn, 1) := by decide +kernel
theorem pn_5 : plainName "java/lang/Enum" = true := by first | (simp [plainName, overriddenIn]; done) | decide +kernel
theorem ef_rmOR (m : MethodId) (x0 : Addr) : entryFrame m #[(.ref x0)] 1 = mkF m 0 #[.val (.ref x0)] [] := by first | (simp [entryFrame, mkF, argsToLocals, Value.category]; done) | rfl
set_option maxRecDepth 65536 in
set_option maxHeartbeats 40000000 in
theorem rmOR (l : Launch) (Z : State) (a0 : Array Value) (hw : ∀ d ∈ tables_1, d.before a0 Z = true) (ws : List Jvm.Cond) (a : Addr) (o : Int32) (h0 : Heap) (n0 : Nat) (Z0 : n0 ≤ h0.size) (F : Fld Z h0 a "java/lang/Enum" "ordinal" "I" (.int o)) :
    MetFree l (⟨"java/lang/Enum", "ordinal", "()I"⟩ : MethodName) (head1 (Jvm.Cond.code (⟨"java/lang/Enum", "ordinal", "()I"⟩ : MethodName) jdk_37_method_2_code 1 (some .int) :: ws) ({ frames := 0, cells := 0, slots := 0, locals := 0 } : Room)) (fun a_ U_ => a_ = #[(.ref a)] ∧ Z.Warmed39 U_.vm ∧ U_.heap = h0) (fun _ _ _ _ _ => True) (fun _ U_ o_ U'_ => ∃ v_ L_, o_ = .returned v_ ∧ QR (.int o) h0 n0 v_ U'_.heap L_ ∧ FrameEnd U_ o_ U'_ L_ ({ frames := 0, cells := 0, slots := 0, locals := 0 } : Room).cells ({ frames := 0, cells := 0, slots := 0, locals := 0 } : Room).slots) := by
  refine MetFree.of_bodySF (plainFor_of_name pn_5) hisR ?_
  intro p e s m args below meth c s₁ Bd hml0 hP hK
  obtain ⟨rfl, hZ, hh⟩ := hP
  have hx := Bd.exec
  have hby := Bd.bytes
  have hml : c.maxLocals = 1 := hml0
  have hown : s.vm.findClass "java/lang/Enum" = some m.cls := findClass_of_methodNamed Bd.named
  have hnm := (name_of_methodNamed Bd.named Bd.method).1
  have hlk := BodyLoose.notSynchronized Bd
  have X0 : Stand p l e ({ frames := 0, cells := 0, slots := 0, locals := 0 } : Room) s m #[(.ref a)] below meth c s₁ [] 0 0 := Stand.of_body Bd
  have e0 : s₁.heap = h0 := by rw [← hh, Bd.state]; rfl
  have N0 := Fr.nil n0
  refine own_entry (P := own_End s (QR (.int o) h0 n0) ({ frames := 0, cells := 0, slots := 0, locals := 0 } : Room).cells ({ frames := 0, cells := 0, slots := 0, locals := 0 } : Room).slots) (ef_rmOR m a) ?_
  show own_Go p e below _ s₁ (mkF m 0 #[.val (.ref a)] [])
  refine own_st (fun t_ k_ => XS.aloadN X0.here hx rfl (hb hby d12_0) rfl rfl k_) ?_
  show own_Go p e below _ s₁ (mkF m 1 #[.val (.ref a)] [(.ref a)])
  obtain ⟨T1, X1, e1, st1⟩ := getF X0 hx hZ hown (host := "") (Or.inl (hw _ (List.mem_of_getElem? (i := 84) rfl))) Via.refl e0 F (g := (mkF m 1 #[.val (.ref a)] [(.ref a)])) rfl rfl (hb hby d12_1)
  refine own_st st1 ?_
  show own_Go p e below _ T1 (mkF m 4 #[.val (.ref a)] [(.int o)])
  refine own_retI X1 hx hlk Bd.returns (hb hby d12_4) ?_ (by decide) (by decide)
  show QR (.int o) h0 n0 _ T1.heap _
  rw [e1]
  exact ⟨rfl, N0, rfl⟩
theorem d13_0 : decode prog_12_method_2_code 0 = .ok (.getstatic 20, 3) := by decide +kernel
theorem d13_3 : decode prog_12_method_2_code 3 = .ok (.aload_n 1, 1) := by decide +kernel
theorem d13_4 : decode prog_12_method_2_code 4 = .ok (.invokevirtual 26, 3) := by decide +kernel
theorem pd_6 : parseMethodDescriptor "()Lcom/example/gentle_nudge/gentlenudge/server/AccountKind;" = some ⟨[], some (.object "com/example/gentle_nudge/gentlenudge/server/AccountKind")⟩ := by decide +kernel
theorem d13_7 : decode prog_12_method_2_code 7 = .ok (.invokevirtual 29, 3) := by decide +kernel
theorem pd_7 : parseMethodDescriptor "()I" = some ⟨[], some .int⟩ := by decide +kernel
theorem d13_10 : decode prog_12_method_2_code 10 = .ok (.iaload, 1) := by decide +kernel
theorem d13_11 : decode prog_12_method_2_code 11 = .ok (.lookupswitch 25 #[(1, 35), (2, 49)], 25) := by decide +kernel
theorem d13_60 : decode prog_12_method_2_code 60 = .ok (.iconst 1, 1) := by decide +kernel
theorem d13_61 : decode prog_12_method_2_code 61 = .ok (.ireturn, 1) := by decide +kernel
theorem ef_rmMS (m : MethodId) (x0 : Addr) (x1 : Addr) : entryFrame m #[(.ref x0), (.ref x1)] 2 = mkF m 0 #[.val (.ref x0), .val (.ref x1)] [] := by first | (simp [entryFrame, mkF, argsToLocals, Value.category]; done) | rfl
set_option maxRecDepth 65536 in
set_option maxHeartbeats 40000000 in
theorem rmMS (l : Launch) (Z : State) (a0 : Array Value) (hw : ∀ d ∈ tables_1, d.before a0 Z = true) (ws : List Jvm.Cond) (a oo kd sm : Addr) (ks : ClassId) (h0 : Heap) (n0 : Nat) (Z0 : n0 ≤ h0.size) (Ea : Exa Z h0 a "com/example/gentle_nudge/gentlenudge/server/ChannelOwner") (Eo : Exa Z h0 oo "com/example/gentle_nudge/gentlenudge/server/ChannelOwner") (Fk : Fld Z h0 oo "com/example/gentle_nudge/gentlenudge/server/ChannelOwner" "kind" "Lcom/example/gentle_nudge/gentlenudge/server/AccountKind;" (.ref kd)) (Ek : Exa Z h0 kd "com/example/gentle_nudge/gentlenudge/server/AccountKind") (SS : Sta Z h0 "com/example/gentle_nudge/gentlenudge/server/ChannelOwner$1" "$SwitchMap$com$example$gentle_nudge$gentlenudge$server$AccountKind" "[I" (.ref sm)) (As : Arv Z h0 sm ks .int (2 : Int32) [(.int (1 : Int32)), (.int (2 : Int32))] (.int (0 : Int32))) (Fo : Fld Z h0 kd "java/lang/Enum" "ordinal" "I" (.int (1 : Int32))) :
    MetFree l (⟨"com/example/gentle_nudge/gentlenudge/server/ChannelOwner", "mayStopChannelOf", "(Lcom/example/gentle_nudge/gentlenudge/server/ChannelOwner;)Z"⟩ : MethodName) (head1 (Jvm.Cond.code (⟨"com/example/gentle_nudge/gentlenudge/server/ChannelOwner", "mayStopChannelOf", "(Lcom/example/gentle_nudge/gentlenudge/server/ChannelOwner;)Z"⟩ : MethodName) prog_12_method_2_code 2 (some .boolean) :: ws) ({ frames := 1, cells := 0, slots := 0, locals := 13 } : Room)) (fun a_ U_ => a_ = #[(.ref a), (.ref oo)] ∧ Z.Warmed39 U_.vm ∧ U_.heap = h0) (fun _ _ _ _ _ => True) (fun _ U_ o_ U'_ => ∃ v_ L_, o_ = .returned v_ ∧ QR (.int 1) h0 n0 v_ U'_.heap L_ ∧ FrameEnd U_ o_ U'_ L_ ({ frames := 1, cells := 0, slots := 0, locals := 13 } : Room).cells ({ frames := 1, cells := 0, slots := 0, locals := 13 } : Room).slots) := by
  refine MetFree.of_bodySF (plainFor_of_name pn_4) hisR ?_
  intro p e s m args below meth c s₁ Bd hml0 hP hK
  obtain ⟨rfl, hZ, hh⟩ := hP
  have hx := Bd.exec
  have hby := Bd.bytes
  have hml : c.maxLocals = 2 := hml0
  have hown : s.vm.findClass "com/example/gentle_nudge/gentlenudge/server/ChannelOwner" = some m.cls := findClass_of_methodNamed Bd.named
  have hnm := (name_of_methodNamed Bd.named Bd.method).1
  have hlk := BodyLoose.notSynchronized Bd
  have X0 : Stand p l e ({ frames := 1, cells := 0, slots := 0, locals := 13 } : Room) s m #[(.ref a), (.ref oo)] below meth c s₁ [] 0 0 := Stand.of_body Bd
  have e0 : s₁.heap = h0 := by rw [← hh, Bd.state]; rfl
  have N0 := Fr.nil n0
  refine own_entry (P := own_End s (QR (.int 1) h0 n0) ({ frames := 1, cells := 0, slots := 0, locals := 13 } : Room).cells ({ frames := 1, cells := 0, slots := 0, locals := 13 } : Room).slots) (ef_rmMS m a oo) ?_
  show own_Go p e below _ s₁ (mkF m 0 #[.val (.ref a), .val (.ref oo)] [])
  obtain ⟨T1, X1, e1, st1⟩ := getS2 X0 hx hZ hown (host := "") (Or.inl (hw _ (List.mem_of_getElem? (i := 69) rfl))) Via.refl e0 SS (g := (mkF m 0 #[.val (.ref a), .val (.ref oo)] [])) rfl (hb hby d13_0)
  refine own_st st1 ?_
  show own_Go p e below _ T1 (mkF m 3 #[.val (.ref a), .val (.ref oo)] [(.ref sm)])
  refine own_st (fun t_ k_ => XS.aloadN X1.here hx rfl (hb hby d13_3) rfl rfl k_) ?_
  show own_Go p e below _ T1 (mkF m 4 #[.val (.ref a), .val (.ref oo)] [(.ref oo), (.ref sm)])
  obtain ⟨cq3, kq3, q3a, q3b, q3c⟩ := isOf hZ e1 Eo
  refine own_callV X1 hx (y := (⟨"com/example/gentle_nudge/gentlenudge/server/ChannelOwner", "kind", "()Lcom/example/gentle_nudge/gentlenudge/server/AccountKind;"⟩ : MethodName)) (z := (⟨"com/example/gentle_nudge/gentlenudge/server/ChannelOwner", "kind", "()Lcom/example/gentle_nudge/gentlenudge/server/AccountKind;"⟩ : MethodName)) hown (mvT hZ (hw _ (List.mem_of_getElem? (i := 72) rfl))) (mvT hZ (hw _ (List.mem_of_getElem? (i := 73) rfl))) (notFace_of_selects (args := #[]) (mvT hZ (hw _ (List.mem_of_getElem? (i := 75) rfl)))) (mvT hZ (hw _ (List.mem_of_getElem? (i := 75) rfl))) (mvT hZ (hw _ (List.mem_of_getElem? (i := 74) rfl))) (by decide) (backOf (W := 1) (rmKD l Z a0 hw [] oo kd h0 n0 (Nat.le_trans Z0 (Keep.refl h0 []).1) Fk) hZ (hw _ (List.mem_of_getElem? (i := 76) rfl)) (hw _ (List.mem_of_getElem? (i := 7) rfl)) (by decide) (by decide)) q3a q3c (g := (mkF m 4 #[.val (.ref a), .val (.ref oo)] [(.ref oo), (.ref sm)])) rfl (by rw [hml]; rfl) (argsL := []) (rest := [(.ref sm)]) (lenOf pd_6 rfl) rfl (by show 2 * 0 + _ ≤ _; exact Nat.le_of_eq rfl) (hb hby d13_4) rfl e1 (by decide) (by decide) ?_
  rintro v2 T2 L2 X2 ⟨rfl, Nq2, hh2⟩
  have N2 := Fr.app N0 Nq2
  show own_Go p e below _ T2 (mkF m 7 #[.val (.ref a), .val (.ref oo)] [(.ref kd), (.ref sm)])
  obtain ⟨cq5, kq5, q5a, q5b, q5c⟩ := isOf hZ hh2 Ek
  refine own_callU X2 hx (y := (⟨"com/example/gentle_nudge/gentlenudge/server/AccountKind", "ordinal", "()I"⟩ : MethodName)) (z := (⟨"java/lang/Enum", "ordinal", "()I"⟩ : MethodName)) (owner := "java/lang/Enum") hown (mvT hZ (hw _ (List.mem_of_getElem? (i := 77) rfl))) (mvT hZ (hw _ (List.mem_of_getElem? (i := 78) rfl))) (mvT hZ (hw _ (List.mem_of_getElem? (i := 79) rfl))) (by decide) (mvT hZ (hw _ (List.mem_of_getElem? (i := 81) rfl))) (mvT hZ (hw _ (List.mem_of_getElem? (i := 80) rfl))) (backOf (W := 1) (rmOR l Z a0 hw [] kd (1 : Int32) h0 n0 (Nat.le_trans Z0 (Keep.refl h0 []).1) Fo) hZ (hw _ (List.mem_of_getElem? (i := 83) rfl)) (hw _ (List.mem_of_getElem? (i := 82) rfl)) (by decide) (by decide)) q5a q5c (g := (mkF m 7 #[.val (.ref a), .val (.ref oo)] [(.ref kd), (.ref sm)])) rfl (by rw [hml]; rfl) (argsL := []) (rest := [(.ref sm)]) (lenOf pd_7 rfl) rfl (by show 2 * 0 + _ ≤ _; exact Nat.le_of_eq rfl) (hb hby d13_7) rfl hh2 (by decide) (by decide) ?_
  rintro v4 T4 L4 X4 ⟨rfl, Nq4, hh4⟩
  have N4 := Fr.app N2 Nq4
  show own_Go p e below _ T4 (mkF m 10 #[.val (.ref a), .val (.ref oo)] [(.int (1 : Int32)), (.ref sm)])
  obtain ⟨cl6, Ar6, q6, S6, N6', H6, G6⟩ := As
  have hin6 : ¬ ((1 : Int32) < 0 ∨ cl6.slots.size ≤ ((1 : Int32)).toNatClampNeg) := inb_of S6 ⟨by decide, by decide⟩
  refine own_st (fun t_ k_ => X4.iaload hx (j := (1 : Int32)) (v := (.int (2 : Int32))) (by rw [hh4]; exact Ar6.1) (State.isArrayOf_alike hZ.alike Ar6.2.1) Ar6.2.2 hin6 (Has.at H6 hin6 rfl) (g := (mkF m 10 #[.val (.ref a), .val (.ref oo)] [(.int (1 : Int32)), (.ref sm)])) rfl rfl (hb hby d13_10) t_ k_) ?_
  show own_Go p e below _ T4 (mkF m 11 #[.val (.ref a), .val (.ref oo)] [(.int (2 : Int32))])
  refine own_st (fun t_ k_ => X4.lookupswitchHit hx (g := (mkF m 11 #[.val (.ref a), .val (.ref oo)] [(.int (2 : Int32))])) rfl rfl (hb hby d13_11) (by decide) (a := 2) (off := 49) (by decide) (own_pc (by decide)) t_ k_) ?_
  show own_Go p e below _ T4 (mkF m 60 #[.val (.ref a), .val (.ref oo)] [])
  refine own_st (fun t_ k_ => XS.iconst X4.here hx rfl (hb hby d13_60) k_) ?_
  show own_Go p e below _ T4 (mkF m 61 #[.val (.ref a), .val (.ref oo)] [(.int (1 : Int32))])
  refine own_retN X4 hx hlk (t := .boolean) Bd.returns (by simp) (hb hby d13_61) ?_ (by decide) (by decide)
  show QR (.int 1) h0 n0 _ T4.heap _
  rw [hh4]
  exact ⟨rfl, N4, rfl⟩
theorem d13_46 : decode prog_12_method_2_code 46 = .ok (.aload_n 0, 1) := by decide +kernel
theorem d13_47 : decode prog_12_method_2_code 47 = .ok (.getfield 17, 3) := by decide +kernel
theorem d13_50 : decode prog_12_method_2_code 50 = .ok (.aload_n 1, 1) := by decide +kernel
theorem d13_51 : decode prog_12_method_2_code 51 = .ok (.invokevirtual 40, 3) := by decide +kernel
theorem pd_8 : parseMethodDescriptor "()Ljava/lang/String;" = some ⟨[], some (.object "java/lang/String")⟩ := by decide +kernel
theorem d13_54 : decode prog_12_method_2_code 54 = .ok (.invokevirtual 43, 3) := by decide +kernel
theorem pd_9 : parseMethodDescriptor "(Ljava/lang/Object;)Z" = some ⟨[(.object "java/lang/Object")], some .boolean⟩ := by decide +kernel
theorem d13_57 : decode prog_12_method_2_code 57 = .ok (.goto 4, 3) := by decide +kernel
theorem ef_rmMU (m : MethodId) (x0 : Addr) (x1 : Addr) : entryFrame m #[(.ref x0), (.ref x1)] 2 = mkF m 0 #[.val (.ref x0), .val (.ref x1)] [] := by first | (simp [entryFrame, mkF, argsToLocals, Value.category]; done) | rfl
set_option maxRecDepth 65536 in
set_option maxHeartbeats 40000000 in
theorem rmMU (l : Launch) (Z : State) (a0 : Array Value) (hw : ∀ d ∈ tables_1, d.before a0 Z = true) (ws : List Jvm.Cond) (a oo kd sm n1 t1 n2 t2 : Addr) (ks kb1 kb2 : ClassId) (cs ds : List Int32) (r G : Int32) (h0 : Heap) (n0 : Nat) (Z0 : n0 ≤ h0.size) (Ea : Exa Z h0 a "com/example/gentle_nudge/gentlenudge/server/ChannelOwner") (Eo : Exa Z h0 oo "com/example/gentle_nudge/gentlenudge/server/ChannelOwner") (Fk : Fld Z h0 oo "com/example/gentle_nudge/gentlenudge/server/ChannelOwner" "kind" "Lcom/example/gentle_nudge/gentlenudge/server/AccountKind;" (.ref kd)) (Ek : Exa Z h0 kd "com/example/gentle_nudge/gentlenudge/server/AccountKind") (SS : Sta Z h0 "com/example/gentle_nudge/gentlenudge/server/ChannelOwner$1" "$SwitchMap$com$example$gentle_nudge$gentlenudge$server$AccountKind" "[I" (.ref sm)) (As : Arv Z h0 sm ks .int (2 : Int32) [(.int (1 : Int32)), (.int (2 : Int32))] (.int (0 : Int32))) (Fo : Fld Z h0 kd "java/lang/Enum" "ordinal" "I" (.int (0 : Int32))) (Fn1 : Fld Z h0 a "com/example/gentle_nudge/gentlenudge/server/ChannelOwner" "name" "Ljava/lang/String;" (.ref n1)) (Fn2 : Fld Z h0 oo "com/example/gentle_nudge/gentlenudge/server/ChannelOwner" "name" "Ljava/lang/String;" (.ref n2)) (E1 : Exa Z h0 n1 "java/lang/String") (C1 : Fld Z h0 n1 "java/lang/String" "coder" "B" (.int 0)) (V1 : Fld Z h0 n1 "java/lang/String" "value" "[B" (.ref t1)) (A1 : Arv Z h0 t1 kb1 .byte (Int32.ofNat (cs).length) (((cs).map (fun c => c.toInt8.toInt32)).map Value.int) (.int 0)) (hp1 : ∀ c ∈ cs, ¬ c < 0 ∧ ¬ (255 : Int32) < c) (l21 : (cs).length ≤ 4000) (E2 : Exa Z h0 n2 "java/lang/String") (C2 : Fld Z h0 n2 "java/lang/String" "coder" "B" (.int 0)) (V2 : Fld Z h0 n2 "java/lang/String" "value" "[B" (.ref t2)) (A2 : Arv Z h0 t2 kb2 .byte (Int32.ofNat (ds).length) (((ds).map (fun c => c.toInt8.toInt32)).map Value.int) (.int 0)) (hp2 : ∀ c ∈ ds, ¬ c < 0 ∧ ¬ (255 : Int32) < c) (l22 : (ds).length ≤ 4000) (SC : Sta Z h0 "java/lang/String" "COMPACT_STRINGS" "Z" (.int G)) (hCS : ¬ G = 0) (hr : r = if cs = ds then 1 else 0) :
    MetFree l (⟨"com/example/gentle_nudge/gentlenudge/server/ChannelOwner", "mayStopChannelOf", "(Lcom/example/gentle_nudge/gentlenudge/server/ChannelOwner;)Z"⟩ : MethodName) (head1 (Jvm.Cond.code (⟨"com/example/gentle_nudge/gentlenudge/server/ChannelOwner", "mayStopChannelOf", "(Lcom/example/gentle_nudge/gentlenudge/server/ChannelOwner;)Z"⟩ : MethodName) prog_12_method_2_code 2 (some .boolean) :: ws) ({ frames := 2, cells := 0, slots := 0, locals := 28 } : Room)) (fun a_ U_ => a_ = #[(.ref a), (.ref oo)] ∧ Z.Warmed39 U_.vm ∧ U_.heap = h0) (fun _ _ _ _ _ => True) (fun _ U_ o_ U'_ => ∃ v_ L_, o_ = .returned v_ ∧ QR (.int r) h0 n0 v_ U'_.heap L_ ∧ FrameEnd U_ o_ U'_ L_ ({ frames := 2, cells := 0, slots := 0, locals := 28 } : Room).cells ({ frames := 2, cells := 0, slots := 0, locals := 28 } : Room).slots) := by
  refine MetFree.of_bodySF (plainFor_of_name pn_4) hisR ?_
  intro p e s m args below meth c s₁ Bd hml0 hP hK
  obtain ⟨rfl, hZ, hh⟩ := hP
  have hx := Bd.exec
  have hby := Bd.bytes
  have hml : c.maxLocals = 2 := hml0
  have hown : s.vm.findClass "com/example/gentle_nudge/gentlenudge/server/ChannelOwner" = some m.cls := findClass_of_methodNamed Bd.named
  have hnm := (name_of_methodNamed Bd.named Bd.method).1
  have hlk := BodyLoose.notSynchronized Bd
  have X0 : Stand p l e ({ frames := 2, cells := 0, slots := 0, locals := 28 } : Room) s m #[(.ref a), (.ref oo)] below meth c s₁ [] 0 0 := Stand.of_body Bd
  have e0 : s₁.heap = h0 := by rw [← hh, Bd.state]; rfl
  have N0 := Fr.nil n0
  refine own_entry (P := own_End s (QR (.int r) h0 n0) ({ frames := 2, cells := 0, slots := 0, locals := 28 } : Room).cells ({ frames := 2, cells := 0, slots := 0, locals := 28 } : Room).slots) (ef_rmMU m a oo) ?_
  show own_Go p e below _ s₁ (mkF m 0 #[.val (.ref a), .val (.ref oo)] [])
  obtain ⟨T1, X1, e1, st1⟩ := getS2 X0 hx hZ hown (host := "") (Or.inl (hw _ (List.mem_of_getElem? (i := 69) rfl))) Via.refl e0 SS (g := (mkF m 0 #[.val (.ref a), .val (.ref oo)] [])) rfl (hb hby d13_0)
  refine own_st st1 ?_
  show own_Go p e below _ T1 (mkF m 3 #[.val (.ref a), .val (.ref oo)] [(.ref sm)])
  refine own_st (fun t_ k_ => XS.aloadN X1.here hx rfl (hb hby d13_3) rfl rfl k_) ?_
  show own_Go p e below _ T1 (mkF m 4 #[.val (.ref a), .val (.ref oo)] [(.ref oo), (.ref sm)])
  obtain ⟨cq3, kq3, q3a, q3b, q3c⟩ := isOf hZ e1 Eo
  refine own_callV X1 hx (y := (⟨"com/example/gentle_nudge/gentlenudge/server/ChannelOwner", "kind", "()Lcom/example/gentle_nudge/gentlenudge/server/AccountKind;"⟩ : MethodName)) (z := (⟨"com/example/gentle_nudge/gentlenudge/server/ChannelOwner", "kind", "()Lcom/example/gentle_nudge/gentlenudge/server/AccountKind;"⟩ : MethodName)) hown (mvT hZ (hw _ (List.mem_of_getElem? (i := 72) rfl))) (mvT hZ (hw _ (List.mem_of_getElem? (i := 73) rfl))) (notFace_of_selects (args := #[]) (mvT hZ (hw _ (List.mem_of_getElem? (i := 75) rfl)))) (mvT hZ (hw _ (List.mem_of_getElem? (i := 75) rfl))) (mvT hZ (hw _ (List.mem_of_getElem? (i := 74) rfl))) (by decide) (backOf (W := 1) (rmKD l Z a0 hw [] oo kd h0 n0 (Nat.le_trans Z0 (Keep.refl h0 []).1) Fk) hZ (hw _ (List.mem_of_getElem? (i := 76) rfl)) (hw _ (List.mem_of_getElem? (i := 7) rfl)) (by decide) (by decide)) q3a q3c (g := (mkF m 4 #[.val (.ref a), .val (.ref oo)] [(.ref oo), (.ref sm)])) rfl (by rw [hml]; rfl) (argsL := []) (rest := [(.ref sm)]) (lenOf pd_6 rfl) rfl (by show 2 * 0 + _ ≤ _; exact Nat.le_of_eq rfl) (hb hby d13_4) rfl e1 (by decide) (by decide) ?_
  rintro v2 T2 L2 X2 ⟨rfl, Nq2, hh2⟩
  have N2 := Fr.app N0 Nq2
  show own_Go p e below _ T2 (mkF m 7 #[.val (.ref a), .val (.ref oo)] [(.ref kd), (.ref sm)])
  obtain ⟨cq5, kq5, q5a, q5b, q5c⟩ := isOf hZ hh2 Ek
  refine own_callU X2 hx (y := (⟨"com/example/gentle_nudge/gentlenudge/server/AccountKind", "ordinal", "()I"⟩ : MethodName)) (z := (⟨"java/lang/Enum", "ordinal", "()I"⟩ : MethodName)) (owner := "java/lang/Enum") hown (mvT hZ (hw _ (List.mem_of_getElem? (i := 77) rfl))) (mvT hZ (hw _ (List.mem_of_getElem? (i := 78) rfl))) (mvT hZ (hw _ (List.mem_of_getElem? (i := 79) rfl))) (by decide) (mvT hZ (hw _ (List.mem_of_getElem? (i := 81) rfl))) (mvT hZ (hw _ (List.mem_of_getElem? (i := 80) rfl))) (backOf (W := 1) (rmOR l Z a0 hw [] kd (0 : Int32) h0 n0 (Nat.le_trans Z0 (Keep.refl h0 []).1) Fo) hZ (hw _ (List.mem_of_getElem? (i := 83) rfl)) (hw _ (List.mem_of_getElem? (i := 82) rfl)) (by decide) (by decide)) q5a q5c (g := (mkF m 7 #[.val (.ref a), .val (.ref oo)] [(.ref kd), (.ref sm)])) rfl (by rw [hml]; rfl) (argsL := []) (rest := [(.ref sm)]) (lenOf pd_7 rfl) rfl (by show 2 * 0 + _ ≤ _; exact Nat.le_of_eq rfl) (hb hby d13_7) rfl hh2 (by decide) (by decide) ?_
  rintro v4 T4 L4 X4 ⟨rfl, Nq4, hh4⟩
  have N4 := Fr.app N2 Nq4
  show own_Go p e below _ T4 (mkF m 10 #[.val (.ref a), .val (.ref oo)] [(.int (0 : Int32)), (.ref sm)])
  obtain ⟨cl6, Ar6, q6, S6, N6', H6, G6⟩ := As
  have hin6 : ¬ ((0 : Int32) < 0 ∨ cl6.slots.size ≤ ((0 : Int32)).toNatClampNeg) := inb_of S6 ⟨by decide, by decide⟩
  refine own_st (fun t_ k_ => X4.iaload hx (j := (0 : Int32)) (v := (.int (1 : Int32))) (by rw [hh4]; exact Ar6.1) (State.isArrayOf_alike hZ.alike Ar6.2.1) Ar6.2.2 hin6 (Has.at H6 hin6 rfl) (g := (mkF m 10 #[.val (.ref a), .val (.ref oo)] [(.int (0 : Int32)), (.ref sm)])) rfl rfl (hb hby d13_10) t_ k_) ?_
  show own_Go p e below _ T4 (mkF m 11 #[.val (.ref a), .val (.ref oo)] [(.int (1 : Int32))])
  refine own_st (fun t_ k_ => X4.lookupswitchHit hx (g := (mkF m 11 #[.val (.ref a), .val (.ref oo)] [(.int (1 : Int32))])) rfl rfl (hb hby d13_11) (by decide) (a := 1) (off := 35) (by decide) (own_pc (by decide)) t_ k_) ?_
  show own_Go p e below _ T4 (mkF m 46 #[.val (.ref a), .val (.ref oo)] [])
  refine own_st (fun t_ k_ => XS.aloadN X4.here hx rfl (hb hby d13_46) rfl rfl k_) ?_
  show own_Go p e below _ T4 (mkF m 47 #[.val (.ref a), .val (.ref oo)] [(.ref a)])
  obtain ⟨T7, X7, e7, st7⟩ := getF X4 hx hZ hown (host := "") (Or.inl (hw _ (List.mem_of_getElem? (i := 62) rfl))) Via.refl hh4 Fn1 (g := (mkF m 47 #[.val (.ref a), .val (.ref oo)] [(.ref a)])) rfl rfl (hb hby d13_47)
  refine own_st st7 ?_
  show own_Go p e below _ T7 (mkF m 50 #[.val (.ref a), .val (.ref oo)] [(.ref n1)])
  refine own_st (fun t_ k_ => XS.aloadN X7.here hx rfl (hb hby d13_50) rfl rfl k_) ?_
  show own_Go p e below _ T7 (mkF m 51 #[.val (.ref a), .val (.ref oo)] [(.ref oo), (.ref n1)])
  obtain ⟨cq9, kq9, q9a, q9b, q9c⟩ := isOf hZ e7 Eo
  refine own_callV X7 hx (y := (⟨"com/example/gentle_nudge/gentlenudge/server/ChannelOwner", "name", "()Ljava/lang/String;"⟩ : MethodName)) (z := (⟨"com/example/gentle_nudge/gentlenudge/server/ChannelOwner", "name", "()Ljava/lang/String;"⟩ : MethodName)) hown (mvT hZ (hw _ (List.mem_of_getElem? (i := 86) rfl))) (mvT hZ (hw _ (List.mem_of_getElem? (i := 87) rfl))) (notFace_of_selects (args := #[]) (mvT hZ (hw _ (List.mem_of_getElem? (i := 89) rfl)))) (mvT hZ (hw _ (List.mem_of_getElem? (i := 89) rfl))) (mvT hZ (hw _ (List.mem_of_getElem? (i := 88) rfl))) (by decide) (backOf (W := 1) (rmNM l Z a0 hw [] oo n2 h0 n0 (Nat.le_trans Z0 (Keep.refl h0 []).1) Fn2) hZ (hw _ (List.mem_of_getElem? (i := 90) rfl)) (hw _ (List.mem_of_getElem? (i := 7) rfl)) (by decide) (by decide)) q9a q9c (g := (mkF m 51 #[.val (.ref a), .val (.ref oo)] [(.ref oo), (.ref n1)])) rfl (by rw [hml]; rfl) (argsL := []) (rest := [(.ref n1)]) (lenOf pd_8 rfl) rfl (by show 2 * 0 + _ ≤ _; exact Nat.le_of_eq rfl) (hb hby d13_51) rfl e7 (by decide) (by decide) ?_
  rintro v8 T8 L8 X8 ⟨rfl, Nq8, hh8⟩
  have N8 := Fr.app N4 Nq8
  show own_Go p e below _ T8 (mkF m 54 #[.val (.ref a), .val (.ref oo)] [(.ref n2), (.ref n1)])
  obtain ⟨cq11, kq11, q11a, q11b, q11c⟩ := isOf hZ hh8 E1
  refine own_callV X8 hx (y := (⟨"java/lang/String", "equals", "(Ljava/lang/Object;)Z"⟩ : MethodName)) (z := (⟨"java/lang/String", "equals", "(Ljava/lang/Object;)Z"⟩ : MethodName)) hown (mvT hZ (hw _ (List.mem_of_getElem? (i := 91) rfl))) (mvT hZ (hw _ (List.mem_of_getElem? (i := 92) rfl))) (notFace_of_selects (args := #[]) (mvT hZ (hw _ (List.mem_of_getElem? (i := 94) rfl)))) (mvT hZ (hw _ (List.mem_of_getElem? (i := 94) rfl))) (mvT hZ (hw _ (List.mem_of_getElem? (i := 93) rfl))) (by decide) (own_eqB (StrChars.Road.eqW (W := 0) hZ (own_wEq hw) (kI := 4) (hw _ (List.mem_of_getElem? (i := 18) rfl)) E1 V1 C1 A1 (StrChars.Road.codOf rfl (fun c hc => (hp1 c hc).2)) (own_up hp1) l21 E2 V2 C2 A2 (StrChars.Road.codOf rfl (fun c hc => (hp2 c hc).2)) (own_up hp2) l22 SC hCS (by decide) (by decide))) q11a q11c (g := (mkF m 54 #[.val (.ref a), .val (.ref oo)] [(.ref n2), (.ref n1)])) rfl (by rw [hml]; rfl) (argsL := [(.ref n2)]) (rest := []) (lenOf pd_9 rfl) rfl (by show 2 * 0 + _ ≤ _; exact Nat.le_of_eq rfl) (hb hby d13_54) rfl hh8 (by decide) (by decide) ?_
  rintro v10 T10 L10 X10 ⟨hcase10, rfl, hh10⟩
  have Nq10 := Fr.nil n0
  have N10 := Fr.app N8 Nq10
  rcases hcase10 with ⟨rfl, hcs10⟩ | ⟨rfl, hcs10⟩
  · show own_Go p e below _ T10 (mkF m 57 #[.val (.ref a), .val (.ref oo)] [(.int (1 : Int32))])
    refine own_st (fun t_ k_ => XS.goto X10.here hx rfl (pc0 := 57) (pc' := 61) rfl (hb hby d13_57) (by decide) (by decide) k_) ?_
    show own_Go p e below _ T10 (mkF m 61 #[.val (.ref a), .val (.ref oo)] [(.int (1 : Int32))])
    refine own_retN X10 hx hlk (t := .boolean) Bd.returns (by simp) (hb hby d13_61) ?_ (by decide) (by decide)
    show QR (.int r) h0 n0 _ T10.heap _
    rw [hh10]
    exact ⟨by rw [hr, if_pos hcs10]; rfl, N10, rfl⟩
  · show own_Go p e below _ T10 (mkF m 57 #[.val (.ref a), .val (.ref oo)] [(.int (0 : Int32))])
    refine own_st (fun t_ k_ => XS.goto X10.here hx rfl (pc0 := 57) (pc' := 61) rfl (hb hby d13_57) (by decide) (by decide) k_) ?_
    show own_Go p e below _ T10 (mkF m 61 #[.val (.ref a), .val (.ref oo)] [(.int (0 : Int32))])
    refine own_retN X10 hx hlk (t := .boolean) Bd.returns (by simp) (hb hby d13_61) ?_ (by decide) (by decide)
    show QR (.int r) h0 n0 _ T10.heap _
    rw [hh10]
    exact ⟨by rw [hr, if_neg hcs10]; rfl, N10, rfl⟩
def Q0 (n0 : Nat) (v : Option Value) (h : Heap) (L : List Loc) : Prop := v = some (.int 1) ∧ Fr n0 L
theorem own_mk4 (n c0 c1 : Int32) : (own_mk n c0 c1).length ≤ 4000 := by
  unfold own_mk
  split
  · simp
  · split <;> simp
theorem own_rl3 (x : Int32) : (x &&& (3 : Int32)) % (3 : Int32) = (0 : Int32) ∨ (x &&& (3 : Int32)) % (3 : Int32) = (1 : Int32) ∨ (x &&& (3 : Int32)) % (3 : Int32) = (2 : Int32) := by
  have h := c_and x (3 : Int32) (by decide)
  have h2 := (c_irem (x &&& (3 : Int32)) 3 3 rfl).1 h.1
  have h3 : ((x &&& (3 : Int32)) % (3 : Int32)).toInt = 0 ∨ ((x &&& (3 : Int32)) % (3 : Int32)).toInt = 1 ∨ ((x &&& (3 : Int32)) % (3 : Int32)).toInt = 2 := by omega
  simp only [← Int32.toInt_inj]
  exact h3
theorem pd_10 : parseMethodDescriptor "(C)Ljava/lang/String;" = some ⟨[.char], some (.object "java/lang/String")⟩ := by decide +kernel
theorem pd_11 : parseMethodDescriptor "(ICC)Ljava/lang/String;" = some ⟨[.int, .char, .char], some (.object "java/lang/String")⟩ := by decide +kernel
theorem pd_12 : parseMethodDescriptor "(Ljava/lang/String;Lcom/example/gentle_nudge/gentlenudge/server/AccountKind;Ljava/lang/String;)V" = some ⟨[(.object "java/lang/String"), (.object "com/example/gentle_nudge/gentlenudge/server/AccountKind"), (.object "java/lang/String")], none⟩ := by decide +kernel
theorem pd_13 : parseMethodDescriptor "(Lcom/example/gentle_nudge/gentlenudge/server/ChannelOwner;)Z" = some ⟨[(.object "com/example/gentle_nudge/gentlenudge/server/ChannelOwner")], some .boolean⟩ := by decide +kernel
theorem ef_rm0 (m : MethodId) (x0 : Int32) (x1 : Int32) (x2 : Int32) (x3 : Int32) : entryFrame m #[(.int x0), (.int x1), (.int x2), (.int x3)] maxLocals = mkF m 0 #[.val (.int x0), .val (.int x1), .val (.int x2), .val (.int x3), .unset, .unset, .unset, .unset, .unset, .unset, .unset, .unset, .unset, .unset, .unset, .unset, .unset, .unset, .unset] [] := by first | (simp [entryFrame, mkF, argsToLocals, Value.category, maxLocals]; done) | rfl
set_option maxRecDepth 65536 in
set_option maxHeartbeats 40000000 in
theorem rm0 (l : Launch) (Z : State) (a0 : Array Value) (hw : ∀ d ∈ tables_1, d.before a0 Z = true) (ws : List Jvm.Cond) (rN oN fg cb G : Int32) (kU kS sm : Addr) (ks : ClassId) (h0 : Heap) (n0 : Nat) (Z0 : n0 ≤ h0.size) (SC : Sta Z Z.heap "java/lang/String" "COMPACT_STRINGS" "Z" (.int G)) (hCS : ¬ G = 0) (O0 : Old Z n0 h0) (SU : Sta Z Z.heap "com/example/gentle_nudge/gentlenudge/server/AccountKind" "USER" "Lcom/example/gentle_nudge/gentlenudge/server/AccountKind;" (.ref kU)) (SE : Sta Z Z.heap "com/example/gentle_nudge/gentlenudge/server/AccountKind" "SERVICE" "Lcom/example/gentle_nudge/gentlenudge/server/AccountKind;" (.ref kS)) (SS : Sta Z Z.heap "com/example/gentle_nudge/gentlenudge/server/ChannelOwner$1" "$SwitchMap$com$example$gentle_nudge$gentlenudge$server$AccountKind" "[I" (.ref sm)) (EU : Exa Z h0 kU "com/example/gentle_nudge/gentlenudge/server/AccountKind") (ES : Exa Z h0 kS "com/example/gentle_nudge/gentlenudge/server/AccountKind") (FU : Fld Z h0 kU "java/lang/Enum" "ordinal" "I" (.int (0 : Int32))) (FS : Fld Z h0 kS "java/lang/Enum" "ordinal" "I" (.int (1 : Int32))) (As : Arv Z h0 sm ks .int (2 : Int32) [(.int (1 : Int32)), (.int (2 : Int32))] (.int (0 : Int32))) :
    MetFree l x (head1 (Jvm.Cond.code x code maxLocals ret :: ws) room_1) (fun a_ U_ => a_ = #[(.int rN), (.int oN), (.int fg), (.int cb)] ∧ Z.Warmed39 U_.vm ∧ U_.heap = h0 ∧ CHv Z consts_1 U_.vm h0) (fun _ _ _ _ _ => True) (fun _ U_ o_ U'_ => ∃ v_ L_, o_ = .returned v_ ∧ Q0 n0 v_ U'_.heap L_ ∧ CHr Z consts_1 U_.vm U_.heap U'_.vm U'_.heap ∧ ReturnedEndW U_ o_ U'_ L_ 40 1216) := by
  refine MetFree.of_bodySF (plainFor_of_name pn_2) hisR ?_
  intro p e s m args below meth c s₁ Bd hml0 hP hK
  obtain ⟨rfl, hZ, hh, hC0⟩ := hP
  have hx := Bd.exec
  have hby := Bd.bytes
  have hml : c.maxLocals = 19 := hml0
  have hown : s.vm.findClass "com/example/gentle_nudge/gentlenudge/server/ChannelOwnerMayStopChannelOfPinLaw" = some m.cls := findClass_of_methodNamed Bd.named
  have hnm := (name_of_methodNamed Bd.named Bd.method).1
  have hlk := BodyLoose.notSynchronized Bd
  have X0 : Stand p l e room_1 (s.setVm s.vm) m #[(.int rN), (.int oN), (.int fg), (.int cb)] below meth c s₁ [] 0 0 := Stand.of_body Bd
  have e0 : s₁.heap = h0 := by rw [← hh, Bd.state]; rfl
  have N0 := Fr.nil n0
  have hEL := own_EL hw
  have B0 : own_Bk Z consts_1 s h0 s.vm h0 := own_Bk.start hC0
  refine own_entry (P := own_EndS Z consts_1 s (Q0 n0) 40 1216) (ef_rm0 m rN oN fg cb) ?_
  show own_Go p e below _ s₁ (mkF m 0 #[.val (.int rN), .val (.int oN), .val (.int fg), .val (.int cb), .unset, .unset, .unset, .unset, .unset, .unset, .unset, .unset, .unset, .unset, .unset, .unset, .unset, .unset, .unset] [])
  refine own_st (fun t_ k_ => XS.iloadN X0.here hx rfl (hb hby at_0) rfl k_) ?_
  show own_Go p e below _ s₁ (mkF m 1 #[.val (.int rN), .val (.int oN), .val (.int fg), .val (.int cb), .unset, .unset, .unset, .unset, .unset, .unset, .unset, .unset, .unset, .unset, .unset, .unset, .unset, .unset, .unset] [(.int rN)])
  refine own_st (fun t_ k_ => XS.iconst X0.here hx rfl (hb hby at_1) k_) ?_
  show own_Go p e below _ s₁ (mkF m 2 #[.val (.int rN), .val (.int oN), .val (.int fg), .val (.int cb), .unset, .unset, .unset, .unset, .unset, .unset, .unset, .unset, .unset, .unset, .unset, .unset, .unset, .unset, .unset] [(.int (3 : Int32)), (.int rN)])
  refine own_st (fun t_ k_ => XS.iand X0.here hx rfl (hb hby at_2) rfl k_) ?_
  show own_Go p e below _ s₁ (mkF m 3 #[.val (.int rN), .val (.int oN), .val (.int fg), .val (.int cb), .unset, .unset, .unset, .unset, .unset, .unset, .unset, .unset, .unset, .unset, .unset, .unset, .unset, .unset, .unset] [(.int (rN &&& (3 : Int32)))])
  refine own_st (fun t_ k_ => XS.iconst X0.here hx rfl (hb hby at_3) k_) ?_
  show own_Go p e below _ s₁ (mkF m 4 #[.val (.int rN), .val (.int oN), .val (.int fg), .val (.int cb), .unset, .unset, .unset, .unset, .unset, .unset, .unset, .unset, .unset, .unset, .unset, .unset, .unset, .unset, .unset] [(.int (3 : Int32)), (.int (rN &&& (3 : Int32)))])
  refine own_st (fun t_ k_ => Jvm.RoadKit.iremM (g := (mkF m 4 #[.val (.int rN), .val (.int oN), .val (.int fg), .val (.int cb), .unset, .unset, .unset, .unset, .unset, .unset, .unset, .unset, .unset, .unset, .unset, .unset, .unset, .unset, .unset] [(.int (3 : Int32)), (.int (rN &&& (3 : Int32)))])) X0 hx rfl (hb hby at_4) rfl (by decide) k_) ?_
  show own_Go p e below _ s₁ (mkF m 5 #[.val (.int rN), .val (.int oN), .val (.int fg), .val (.int cb), .unset, .unset, .unset, .unset, .unset, .unset, .unset, .unset, .unset, .unset, .unset, .unset, .unset, .unset, .unset] [(.int ((rN &&& (3 : Int32)) % (3 : Int32)))])
  have d_rl : ((rN &&& (3 : Int32)) % (3 : Int32)) = (0 : Int32) ∨ ((rN &&& (3 : Int32)) % (3 : Int32)) = (1 : Int32) ∨ ((rN &&& (3 : Int32)) % (3 : Int32)) = (2 : Int32) := own_rl3 _
  generalize h_rl : ((rN &&& (3 : Int32)) % (3 : Int32)) = rl at d_rl ⊢
  show own_Go p e below _ s₁ (mkF m 5 #[.val (.int rN), .val (.int oN), .val (.int fg), .val (.int cb), .unset, .unset, .unset, .unset, .unset, .unset, .unset, .unset, .unset, .unset, .unset, .unset, .unset, .unset, .unset] [(.int rl)])
  refine own_st (fun t_ k_ => XS.istore X0.here hx rfl (hb hby at_5) rfl (l' := #[.val (.int rN), .val (.int oN), .val (.int fg), .val (.int cb), .val (.int rl), .unset, .unset, .unset, .unset, .unset, .unset, .unset, .unset, .unset, .unset, .unset, .unset, .unset, .unset]) rfl k_) ?_
  show own_Go p e below _ s₁ (mkF m 7 #[.val (.int rN), .val (.int oN), .val (.int fg), .val (.int cb), .val (.int rl), .unset, .unset, .unset, .unset, .unset, .unset, .unset, .unset, .unset, .unset, .unset, .unset, .unset, .unset] [])
  refine own_st (fun t_ k_ => XS.iloadN X0.here hx rfl (hb hby at_7) rfl k_) ?_
  show own_Go p e below _ s₁ (mkF m 8 #[.val (.int rN), .val (.int oN), .val (.int fg), .val (.int cb), .val (.int rl), .unset, .unset, .unset, .unset, .unset, .unset, .unset, .unset, .unset, .unset, .unset, .unset, .unset, .unset] [(.int rN)])
  refine own_st (fun t_ k_ => XS.iconst X0.here hx rfl (hb hby at_8) k_) ?_
  show own_Go p e below _ s₁ (mkF m 9 #[.val (.int rN), .val (.int oN), .val (.int fg), .val (.int cb), .val (.int rl), .unset, .unset, .unset, .unset, .unset, .unset, .unset, .unset, .unset, .unset, .unset, .unset, .unset, .unset] [(.int (2 : Int32)), (.int rN)])
  refine own_st (fun t_ k_ => XS.iushr X0.here hx rfl (hb hby at_9) rfl k_) ?_
  show own_Go p e below _ s₁ (mkF m 10 #[.val (.int rN), .val (.int oN), .val (.int fg), .val (.int cb), .val (.int rl), .unset, .unset, .unset, .unset, .unset, .unset, .unset, .unset, .unset, .unset, .unset, .unset, .unset, .unset] [(.int ((rN.toUInt32 >>> ((2 : Int32) &&& 31).toUInt32).toInt32))])
  refine own_st (fun t_ k_ => XS.sipush X0.here hx rfl (hb hby at_10) k_) ?_
  show own_Go p e below _ s₁ (mkF m 13 #[.val (.int rN), .val (.int oN), .val (.int fg), .val (.int cb), .val (.int rl), .unset, .unset, .unset, .unset, .unset, .unset, .unset, .unset, .unset, .unset, .unset, .unset, .unset, .unset] [(.int (255 : Int32)), (.int ((rN.toUInt32 >>> ((2 : Int32) &&& 31).toUInt32).toInt32))])
  refine own_st (fun t_ k_ => XS.iand X0.here hx rfl (hb hby at_13) rfl k_) ?_
  show own_Go p e below _ s₁ (mkF m 14 #[.val (.int rN), .val (.int oN), .val (.int fg), .val (.int cb), .val (.int rl), .unset, .unset, .unset, .unset, .unset, .unset, .unset, .unset, .unset, .unset, .unset, .unset, .unset, .unset] [(.int (((rN.toUInt32 >>> ((2 : Int32) &&& 31).toUInt32).toInt32) &&& (255 : Int32)))])
  refine own_st (fun t_ k_ => XS.i2c X0.here hx rfl (hb hby at_14) rfl k_) ?_
  show own_Go p e below _ s₁ (mkF m 15 #[.val (.int rN), .val (.int oN), .val (.int fg), .val (.int cb), .val (.int rl), .unset, .unset, .unset, .unset, .unset, .unset, .unset, .unset, .unset, .unset, .unset, .unset, .unset, .unset] [(.int ((((rN.toUInt32 >>> ((2 : Int32) &&& 31).toUInt32).toInt32) &&& (255 : Int32)).toUInt32.toUInt16.toUInt32.toInt32))])
  have d_r0 : own_L ((((rN.toUInt32 >>> ((2 : Int32) &&& 31).toUInt32).toInt32) &&& (255 : Int32)).toUInt32.toUInt16.toUInt32.toInt32) := own_i2cL _
  generalize h_r0 : ((((rN.toUInt32 >>> ((2 : Int32) &&& 31).toUInt32).toInt32) &&& (255 : Int32)).toUInt32.toUInt16.toUInt32.toInt32) = r0 at d_r0 ⊢
  show own_Go p e below _ s₁ (mkF m 15 #[.val (.int rN), .val (.int oN), .val (.int fg), .val (.int cb), .val (.int rl), .unset, .unset, .unset, .unset, .unset, .unset, .unset, .unset, .unset, .unset, .unset, .unset, .unset, .unset] [(.int r0)])
  refine own_st (fun t_ k_ => XS.istore X0.here hx rfl (hb hby at_15) rfl (l' := #[.val (.int rN), .val (.int oN), .val (.int fg), .val (.int cb), .val (.int rl), .val (.int r0), .unset, .unset, .unset, .unset, .unset, .unset, .unset, .unset, .unset, .unset, .unset, .unset, .unset]) rfl k_) ?_
  show own_Go p e below _ s₁ (mkF m 17 #[.val (.int rN), .val (.int oN), .val (.int fg), .val (.int cb), .val (.int rl), .val (.int r0), .unset, .unset, .unset, .unset, .unset, .unset, .unset, .unset, .unset, .unset, .unset, .unset, .unset] [])
  refine own_st (fun t_ k_ => XS.iloadN X0.here hx rfl (hb hby at_17) rfl k_) ?_
  show own_Go p e below _ s₁ (mkF m 18 #[.val (.int rN), .val (.int oN), .val (.int fg), .val (.int cb), .val (.int rl), .val (.int r0), .unset, .unset, .unset, .unset, .unset, .unset, .unset, .unset, .unset, .unset, .unset, .unset, .unset] [(.int rN)])
  refine own_st (fun t_ k_ => XS.bipush X0.here hx rfl (hb hby at_18) k_) ?_
  show own_Go p e below _ s₁ (mkF m 20 #[.val (.int rN), .val (.int oN), .val (.int fg), .val (.int cb), .val (.int rl), .val (.int r0), .unset, .unset, .unset, .unset, .unset, .unset, .unset, .unset, .unset, .unset, .unset, .unset, .unset] [(.int (10 : Int32)), (.int rN)])
  refine own_st (fun t_ k_ => XS.iushr X0.here hx rfl (hb hby at_20) rfl k_) ?_
  show own_Go p e below _ s₁ (mkF m 21 #[.val (.int rN), .val (.int oN), .val (.int fg), .val (.int cb), .val (.int rl), .val (.int r0), .unset, .unset, .unset, .unset, .unset, .unset, .unset, .unset, .unset, .unset, .unset, .unset, .unset] [(.int ((rN.toUInt32 >>> ((10 : Int32) &&& 31).toUInt32).toInt32))])
  refine own_st (fun t_ k_ => XS.sipush X0.here hx rfl (hb hby at_21) k_) ?_
  show own_Go p e below _ s₁ (mkF m 24 #[.val (.int rN), .val (.int oN), .val (.int fg), .val (.int cb), .val (.int rl), .val (.int r0), .unset, .unset, .unset, .unset, .unset, .unset, .unset, .unset, .unset, .unset, .unset, .unset, .unset] [(.int (255 : Int32)), (.int ((rN.toUInt32 >>> ((10 : Int32) &&& 31).toUInt32).toInt32))])
  refine own_st (fun t_ k_ => XS.iand X0.here hx rfl (hb hby at_24) rfl k_) ?_
  show own_Go p e below _ s₁ (mkF m 25 #[.val (.int rN), .val (.int oN), .val (.int fg), .val (.int cb), .val (.int rl), .val (.int r0), .unset, .unset, .unset, .unset, .unset, .unset, .unset, .unset, .unset, .unset, .unset, .unset, .unset] [(.int (((rN.toUInt32 >>> ((10 : Int32) &&& 31).toUInt32).toInt32) &&& (255 : Int32)))])
  refine own_st (fun t_ k_ => XS.i2c X0.here hx rfl (hb hby at_25) rfl k_) ?_
  show own_Go p e below _ s₁ (mkF m 26 #[.val (.int rN), .val (.int oN), .val (.int fg), .val (.int cb), .val (.int rl), .val (.int r0), .unset, .unset, .unset, .unset, .unset, .unset, .unset, .unset, .unset, .unset, .unset, .unset, .unset] [(.int ((((rN.toUInt32 >>> ((10 : Int32) &&& 31).toUInt32).toInt32) &&& (255 : Int32)).toUInt32.toUInt16.toUInt32.toInt32))])
  have d_r1 : own_L ((((rN.toUInt32 >>> ((10 : Int32) &&& 31).toUInt32).toInt32) &&& (255 : Int32)).toUInt32.toUInt16.toUInt32.toInt32) := own_i2cL _
  generalize h_r1 : ((((rN.toUInt32 >>> ((10 : Int32) &&& 31).toUInt32).toInt32) &&& (255 : Int32)).toUInt32.toUInt16.toUInt32.toInt32) = r1 at d_r1 ⊢
  show own_Go p e below _ s₁ (mkF m 26 #[.val (.int rN), .val (.int oN), .val (.int fg), .val (.int cb), .val (.int rl), .val (.int r0), .unset, .unset, .unset, .unset, .unset, .unset, .unset, .unset, .unset, .unset, .unset, .unset, .unset] [(.int r1)])
  refine own_st (fun t_ k_ => XS.istore X0.here hx rfl (hb hby at_26) rfl (l' := #[.val (.int rN), .val (.int oN), .val (.int fg), .val (.int cb), .val (.int rl), .val (.int r0), .val (.int r1), .unset, .unset, .unset, .unset, .unset, .unset, .unset, .unset, .unset, .unset, .unset, .unset]) rfl k_) ?_
  show own_Go p e below _ s₁ (mkF m 28 #[.val (.int rN), .val (.int oN), .val (.int fg), .val (.int cb), .val (.int rl), .val (.int r0), .val (.int r1), .unset, .unset, .unset, .unset, .unset, .unset, .unset, .unset, .unset, .unset, .unset, .unset] [])
  refine own_st (fun t_ k_ => XS.iloadN X0.here hx rfl (hb hby at_28) rfl k_) ?_
  show own_Go p e below _ s₁ (mkF m 29 #[.val (.int rN), .val (.int oN), .val (.int fg), .val (.int cb), .val (.int rl), .val (.int r0), .val (.int r1), .unset, .unset, .unset, .unset, .unset, .unset, .unset, .unset, .unset, .unset, .unset, .unset] [(.int oN)])
  refine own_st (fun t_ k_ => XS.iconst X0.here hx rfl (hb hby at_29) k_) ?_
  show own_Go p e below _ s₁ (mkF m 30 #[.val (.int rN), .val (.int oN), .val (.int fg), .val (.int cb), .val (.int rl), .val (.int r0), .val (.int r1), .unset, .unset, .unset, .unset, .unset, .unset, .unset, .unset, .unset, .unset, .unset, .unset] [(.int (3 : Int32)), (.int oN)])
  refine own_st (fun t_ k_ => XS.iand X0.here hx rfl (hb hby at_30) rfl k_) ?_
  show own_Go p e below _ s₁ (mkF m 31 #[.val (.int rN), .val (.int oN), .val (.int fg), .val (.int cb), .val (.int rl), .val (.int r0), .val (.int r1), .unset, .unset, .unset, .unset, .unset, .unset, .unset, .unset, .unset, .unset, .unset, .unset] [(.int (oN &&& (3 : Int32)))])
  refine own_st (fun t_ k_ => XS.iconst X0.here hx rfl (hb hby at_31) k_) ?_
  show own_Go p e below _ s₁ (mkF m 32 #[.val (.int rN), .val (.int oN), .val (.int fg), .val (.int cb), .val (.int rl), .val (.int r0), .val (.int r1), .unset, .unset, .unset, .unset, .unset, .unset, .unset, .unset, .unset, .unset, .unset, .unset] [(.int (3 : Int32)), (.int (oN &&& (3 : Int32)))])
  refine own_st (fun t_ k_ => Jvm.RoadKit.iremM (g := (mkF m 32 #[.val (.int rN), .val (.int oN), .val (.int fg), .val (.int cb), .val (.int rl), .val (.int r0), .val (.int r1), .unset, .unset, .unset, .unset, .unset, .unset, .unset, .unset, .unset, .unset, .unset, .unset] [(.int (3 : Int32)), (.int (oN &&& (3 : Int32)))])) X0 hx rfl (hb hby at_32) rfl (by decide) k_) ?_
  show own_Go p e below _ s₁ (mkF m 33 #[.val (.int rN), .val (.int oN), .val (.int fg), .val (.int cb), .val (.int rl), .val (.int r0), .val (.int r1), .unset, .unset, .unset, .unset, .unset, .unset, .unset, .unset, .unset, .unset, .unset, .unset] [(.int ((oN &&& (3 : Int32)) % (3 : Int32)))])
  have d_pl : ((oN &&& (3 : Int32)) % (3 : Int32)) = (0 : Int32) ∨ ((oN &&& (3 : Int32)) % (3 : Int32)) = (1 : Int32) ∨ ((oN &&& (3 : Int32)) % (3 : Int32)) = (2 : Int32) := own_rl3 _
  generalize h_pl : ((oN &&& (3 : Int32)) % (3 : Int32)) = pl at d_pl ⊢
  show own_Go p e below _ s₁ (mkF m 33 #[.val (.int rN), .val (.int oN), .val (.int fg), .val (.int cb), .val (.int rl), .val (.int r0), .val (.int r1), .unset, .unset, .unset, .unset, .unset, .unset, .unset, .unset, .unset, .unset, .unset, .unset] [(.int pl)])
  refine own_st (fun t_ k_ => XS.istore X0.here hx rfl (hb hby at_33) rfl (l' := #[.val (.int rN), .val (.int oN), .val (.int fg), .val (.int cb), .val (.int rl), .val (.int r0), .val (.int r1), .val (.int pl), .unset, .unset, .unset, .unset, .unset, .unset, .unset, .unset, .unset, .unset, .unset]) rfl k_) ?_
  show own_Go p e below _ s₁ (mkF m 35 #[.val (.int rN), .val (.int oN), .val (.int fg), .val (.int cb), .val (.int rl), .val (.int r0), .val (.int r1), .val (.int pl), .unset, .unset, .unset, .unset, .unset, .unset, .unset, .unset, .unset, .unset, .unset] [])
  refine own_st (fun t_ k_ => XS.iloadN X0.here hx rfl (hb hby at_35) rfl k_) ?_
  show own_Go p e below _ s₁ (mkF m 36 #[.val (.int rN), .val (.int oN), .val (.int fg), .val (.int cb), .val (.int rl), .val (.int r0), .val (.int r1), .val (.int pl), .unset, .unset, .unset, .unset, .unset, .unset, .unset, .unset, .unset, .unset, .unset] [(.int oN)])
  refine own_st (fun t_ k_ => XS.iconst X0.here hx rfl (hb hby at_36) k_) ?_
  show own_Go p e below _ s₁ (mkF m 37 #[.val (.int rN), .val (.int oN), .val (.int fg), .val (.int cb), .val (.int rl), .val (.int r0), .val (.int r1), .val (.int pl), .unset, .unset, .unset, .unset, .unset, .unset, .unset, .unset, .unset, .unset, .unset] [(.int (2 : Int32)), (.int oN)])
  refine own_st (fun t_ k_ => XS.iushr X0.here hx rfl (hb hby at_37) rfl k_) ?_
  show own_Go p e below _ s₁ (mkF m 38 #[.val (.int rN), .val (.int oN), .val (.int fg), .val (.int cb), .val (.int rl), .val (.int r0), .val (.int r1), .val (.int pl), .unset, .unset, .unset, .unset, .unset, .unset, .unset, .unset, .unset, .unset, .unset] [(.int ((oN.toUInt32 >>> ((2 : Int32) &&& 31).toUInt32).toInt32))])
  refine own_st (fun t_ k_ => XS.sipush X0.here hx rfl (hb hby at_38) k_) ?_
  show own_Go p e below _ s₁ (mkF m 41 #[.val (.int rN), .val (.int oN), .val (.int fg), .val (.int cb), .val (.int rl), .val (.int r0), .val (.int r1), .val (.int pl), .unset, .unset, .unset, .unset, .unset, .unset, .unset, .unset, .unset, .unset, .unset] [(.int (255 : Int32)), (.int ((oN.toUInt32 >>> ((2 : Int32) &&& 31).toUInt32).toInt32))])
  refine own_st (fun t_ k_ => XS.iand X0.here hx rfl (hb hby at_41) rfl k_) ?_
  show own_Go p e below _ s₁ (mkF m 42 #[.val (.int rN), .val (.int oN), .val (.int fg), .val (.int cb), .val (.int rl), .val (.int r0), .val (.int r1), .val (.int pl), .unset, .unset, .unset, .unset, .unset, .unset, .unset, .unset, .unset, .unset, .unset] [(.int (((oN.toUInt32 >>> ((2 : Int32) &&& 31).toUInt32).toInt32) &&& (255 : Int32)))])
  refine own_st (fun t_ k_ => XS.i2c X0.here hx rfl (hb hby at_42) rfl k_) ?_
  show own_Go p e below _ s₁ (mkF m 43 #[.val (.int rN), .val (.int oN), .val (.int fg), .val (.int cb), .val (.int rl), .val (.int r0), .val (.int r1), .val (.int pl), .unset, .unset, .unset, .unset, .unset, .unset, .unset, .unset, .unset, .unset, .unset] [(.int ((((oN.toUInt32 >>> ((2 : Int32) &&& 31).toUInt32).toInt32) &&& (255 : Int32)).toUInt32.toUInt16.toUInt32.toInt32))])
  have d_p0 : own_L ((((oN.toUInt32 >>> ((2 : Int32) &&& 31).toUInt32).toInt32) &&& (255 : Int32)).toUInt32.toUInt16.toUInt32.toInt32) := own_i2cL _
  generalize h_p0 : ((((oN.toUInt32 >>> ((2 : Int32) &&& 31).toUInt32).toInt32) &&& (255 : Int32)).toUInt32.toUInt16.toUInt32.toInt32) = p0 at d_p0 ⊢
  show own_Go p e below _ s₁ (mkF m 43 #[.val (.int rN), .val (.int oN), .val (.int fg), .val (.int cb), .val (.int rl), .val (.int r0), .val (.int r1), .val (.int pl), .unset, .unset, .unset, .unset, .unset, .unset, .unset, .unset, .unset, .unset, .unset] [(.int p0)])
  refine own_st (fun t_ k_ => XS.istore X0.here hx rfl (hb hby at_43) rfl (l' := #[.val (.int rN), .val (.int oN), .val (.int fg), .val (.int cb), .val (.int rl), .val (.int r0), .val (.int r1), .val (.int pl), .val (.int p0), .unset, .unset, .unset, .unset, .unset, .unset, .unset, .unset, .unset, .unset]) rfl k_) ?_
  show own_Go p e below _ s₁ (mkF m 45 #[.val (.int rN), .val (.int oN), .val (.int fg), .val (.int cb), .val (.int rl), .val (.int r0), .val (.int r1), .val (.int pl), .val (.int p0), .unset, .unset, .unset, .unset, .unset, .unset, .unset, .unset, .unset, .unset] [])
  refine own_st (fun t_ k_ => XS.iloadN X0.here hx rfl (hb hby at_45) rfl k_) ?_
  show own_Go p e below _ s₁ (mkF m 46 #[.val (.int rN), .val (.int oN), .val (.int fg), .val (.int cb), .val (.int rl), .val (.int r0), .val (.int r1), .val (.int pl), .val (.int p0), .unset, .unset, .unset, .unset, .unset, .unset, .unset, .unset, .unset, .unset] [(.int oN)])
  refine own_st (fun t_ k_ => XS.bipush X0.here hx rfl (hb hby at_46) k_) ?_
  show own_Go p e below _ s₁ (mkF m 48 #[.val (.int rN), .val (.int oN), .val (.int fg), .val (.int cb), .val (.int rl), .val (.int r0), .val (.int r1), .val (.int pl), .val (.int p0), .unset, .unset, .unset, .unset, .unset, .unset, .unset, .unset, .unset, .unset] [(.int (10 : Int32)), (.int oN)])
  refine own_st (fun t_ k_ => XS.iushr X0.here hx rfl (hb hby at_48) rfl k_) ?_
  show own_Go p e below _ s₁ (mkF m 49 #[.val (.int rN), .val (.int oN), .val (.int fg), .val (.int cb), .val (.int rl), .val (.int r0), .val (.int r1), .val (.int pl), .val (.int p0), .unset, .unset, .unset, .unset, .unset, .unset, .unset, .unset, .unset, .unset] [(.int ((oN.toUInt32 >>> ((10 : Int32) &&& 31).toUInt32).toInt32))])
  refine own_st (fun t_ k_ => XS.sipush X0.here hx rfl (hb hby at_49) k_) ?_
  show own_Go p e below _ s₁ (mkF m 52 #[.val (.int rN), .val (.int oN), .val (.int fg), .val (.int cb), .val (.int rl), .val (.int r0), .val (.int r1), .val (.int pl), .val (.int p0), .unset, .unset, .unset, .unset, .unset, .unset, .unset, .unset, .unset, .unset] [(.int (255 : Int32)), (.int ((oN.toUInt32 >>> ((10 : Int32) &&& 31).toUInt32).toInt32))])
  refine own_st (fun t_ k_ => XS.iand X0.here hx rfl (hb hby at_52) rfl k_) ?_
  show own_Go p e below _ s₁ (mkF m 53 #[.val (.int rN), .val (.int oN), .val (.int fg), .val (.int cb), .val (.int rl), .val (.int r0), .val (.int r1), .val (.int pl), .val (.int p0), .unset, .unset, .unset, .unset, .unset, .unset, .unset, .unset, .unset, .unset] [(.int (((oN.toUInt32 >>> ((10 : Int32) &&& 31).toUInt32).toInt32) &&& (255 : Int32)))])
  refine own_st (fun t_ k_ => XS.i2c X0.here hx rfl (hb hby at_53) rfl k_) ?_
  show own_Go p e below _ s₁ (mkF m 54 #[.val (.int rN), .val (.int oN), .val (.int fg), .val (.int cb), .val (.int rl), .val (.int r0), .val (.int r1), .val (.int pl), .val (.int p0), .unset, .unset, .unset, .unset, .unset, .unset, .unset, .unset, .unset, .unset] [(.int ((((oN.toUInt32 >>> ((10 : Int32) &&& 31).toUInt32).toInt32) &&& (255 : Int32)).toUInt32.toUInt16.toUInt32.toInt32))])
  have d_p1 : own_L ((((oN.toUInt32 >>> ((10 : Int32) &&& 31).toUInt32).toInt32) &&& (255 : Int32)).toUInt32.toUInt16.toUInt32.toInt32) := own_i2cL _
  generalize h_p1 : ((((oN.toUInt32 >>> ((10 : Int32) &&& 31).toUInt32).toInt32) &&& (255 : Int32)).toUInt32.toUInt16.toUInt32.toInt32) = p1 at d_p1 ⊢
  show own_Go p e below _ s₁ (mkF m 54 #[.val (.int rN), .val (.int oN), .val (.int fg), .val (.int cb), .val (.int rl), .val (.int r0), .val (.int r1), .val (.int pl), .val (.int p0), .unset, .unset, .unset, .unset, .unset, .unset, .unset, .unset, .unset, .unset] [(.int p1)])
  refine own_st (fun t_ k_ => XS.istore X0.here hx rfl (hb hby at_54) rfl (l' := #[.val (.int rN), .val (.int oN), .val (.int fg), .val (.int cb), .val (.int rl), .val (.int r0), .val (.int r1), .val (.int pl), .val (.int p0), .val (.int p1), .unset, .unset, .unset, .unset, .unset, .unset, .unset, .unset, .unset]) rfl k_) ?_
  show own_Go p e below _ s₁ (mkF m 56 #[.val (.int rN), .val (.int oN), .val (.int fg), .val (.int cb), .val (.int rl), .val (.int r0), .val (.int r1), .val (.int pl), .val (.int p0), .val (.int p1), .unset, .unset, .unset, .unset, .unset, .unset, .unset, .unset, .unset] [])
  refine own_st (fun t_ k_ => XS.iloadN X0.here hx rfl (hb hby at_56) rfl k_) ?_
  show own_Go p e below _ s₁ (mkF m 57 #[.val (.int rN), .val (.int oN), .val (.int fg), .val (.int cb), .val (.int rl), .val (.int r0), .val (.int r1), .val (.int pl), .val (.int p0), .val (.int p1), .unset, .unset, .unset, .unset, .unset, .unset, .unset, .unset, .unset] [(.int fg)])
  refine own_st (fun t_ k_ => XS.iconst X0.here hx rfl (hb hby at_57) k_) ?_
  show own_Go p e below _ s₁ (mkF m 58 #[.val (.int rN), .val (.int oN), .val (.int fg), .val (.int cb), .val (.int rl), .val (.int r0), .val (.int r1), .val (.int pl), .val (.int p0), .val (.int p1), .unset, .unset, .unset, .unset, .unset, .unset, .unset, .unset, .unset] [(.int (2 : Int32)), (.int fg)])
  refine own_st (fun t_ k_ => XS.iushr X0.here hx rfl (hb hby at_58) rfl k_) ?_
  show own_Go p e below _ s₁ (mkF m 59 #[.val (.int rN), .val (.int oN), .val (.int fg), .val (.int cb), .val (.int rl), .val (.int r0), .val (.int r1), .val (.int pl), .val (.int p0), .val (.int p1), .unset, .unset, .unset, .unset, .unset, .unset, .unset, .unset, .unset] [(.int ((fg.toUInt32 >>> ((2 : Int32) &&& 31).toUInt32).toInt32))])
  refine own_st (fun t_ k_ => XS.iconst X0.here hx rfl (hb hby at_59) k_) ?_
  show own_Go p e below _ s₁ (mkF m 60 #[.val (.int rN), .val (.int oN), .val (.int fg), .val (.int cb), .val (.int rl), .val (.int r0), .val (.int r1), .val (.int pl), .val (.int p0), .val (.int p1), .unset, .unset, .unset, .unset, .unset, .unset, .unset, .unset, .unset] [(.int (3 : Int32)), (.int ((fg.toUInt32 >>> ((2 : Int32) &&& 31).toUInt32).toInt32))])
  refine own_st (fun t_ k_ => XS.iand X0.here hx rfl (hb hby at_60) rfl k_) ?_
  show own_Go p e below _ s₁ (mkF m 61 #[.val (.int rN), .val (.int oN), .val (.int fg), .val (.int cb), .val (.int rl), .val (.int r0), .val (.int r1), .val (.int pl), .val (.int p0), .val (.int p1), .unset, .unset, .unset, .unset, .unset, .unset, .unset, .unset, .unset] [(.int (((fg.toUInt32 >>> ((2 : Int32) &&& 31).toUInt32).toInt32) &&& (3 : Int32)))])
  generalize h_md : (((fg.toUInt32 >>> ((2 : Int32) &&& 31).toUInt32).toInt32) &&& (3 : Int32)) = md
  show own_Go p e below _ s₁ (mkF m 61 #[.val (.int rN), .val (.int oN), .val (.int fg), .val (.int cb), .val (.int rl), .val (.int r0), .val (.int r1), .val (.int pl), .val (.int p0), .val (.int p1), .unset, .unset, .unset, .unset, .unset, .unset, .unset, .unset, .unset] [(.int md)])
  refine own_st (fun t_ k_ => XS.istore X0.here hx rfl (hb hby at_61) rfl (l' := #[.val (.int rN), .val (.int oN), .val (.int fg), .val (.int cb), .val (.int rl), .val (.int r0), .val (.int r1), .val (.int pl), .val (.int p0), .val (.int p1), .val (.int md), .unset, .unset, .unset, .unset, .unset, .unset, .unset, .unset]) rfl k_) ?_
  show own_Go p e below _ s₁ (mkF m 63 #[.val (.int rN), .val (.int oN), .val (.int fg), .val (.int cb), .val (.int rl), .val (.int r0), .val (.int r1), .val (.int pl), .val (.int p0), .val (.int p1), .val (.int md), .unset, .unset, .unset, .unset, .unset, .unset, .unset, .unset] [])
  refine own_st (fun t_ k_ => XS.iload X0.here hx rfl (hb hby at_63) rfl k_) ?_
  show own_Go p e below _ s₁ (mkF m 65 #[.val (.int rN), .val (.int oN), .val (.int fg), .val (.int cb), .val (.int rl), .val (.int r0), .val (.int r1), .val (.int pl), .val (.int p0), .val (.int p1), .val (.int md), .unset, .unset, .unset, .unset, .unset, .unset, .unset, .unset] [(.int md)])
  refine own_st (fun t_ k_ => XS.iconst X0.here hx rfl (hb hby at_65) k_) ?_
  show own_Go p e below _ s₁ (mkF m 66 #[.val (.int rN), .val (.int oN), .val (.int fg), .val (.int cb), .val (.int rl), .val (.int r0), .val (.int r1), .val (.int pl), .val (.int p0), .val (.int p1), .val (.int md), .unset, .unset, .unset, .unset, .unset, .unset, .unset, .unset] [(.int (1 : Int32)), (.int md)])
  refine own_join (α := Int32 × Int32 × Int32) (F := fun o => (o.1 = (0 : Int32) ∨ o.1 = (1 : Int32) ∨ o.1 = (2 : Int32)) ∧ own_L o.2.1 ∧ own_L o.2.2) (T' := s₁) (g' := fun o => (mkF m 115 #[.val (.int rN), .val (.int oN), .val (.int fg), .val (.int cb), .val (.int rl), .val (.int r0), .val (.int r1), .val (.int o.1), .val (.int o.2.1), .val (.int o.2.2), .val (.int md), .unset, .unset, .unset, .unset, .unset, .unset, .unset, .unset] [])) (fun o ho => ?_) (fun Jm => ?_)
  · obtain ⟨ol, o0, o1⟩ := o
    obtain ⟨d_ol, d_o0, d_o1⟩ := ho
    show own_Go p e below _ s₁ (mkF m 115 #[.val (.int rN), .val (.int oN), .val (.int fg), .val (.int cb), .val (.int rl), .val (.int r0), .val (.int r1), .val (.int ol), .val (.int o0), .val (.int o1), .val (.int md), .unset, .unset, .unset, .unset, .unset, .unset, .unset, .unset] [])
    refine own_st (fun t_ k_ => XS.iloadN X0.here hx rfl (hb hby at_115) rfl k_) ?_
    show own_Go p e below _ s₁ (mkF m 116 #[.val (.int rN), .val (.int oN), .val (.int fg), .val (.int cb), .val (.int rl), .val (.int r0), .val (.int r1), .val (.int ol), .val (.int o0), .val (.int o1), .val (.int md), .unset, .unset, .unset, .unset, .unset, .unset, .unset, .unset] [(.int fg)])
    refine own_st (fun t_ k_ => XS.iconst X0.here hx rfl (hb hby at_116) k_) ?_
    show own_Go p e below _ s₁ (mkF m 117 #[.val (.int rN), .val (.int oN), .val (.int fg), .val (.int cb), .val (.int rl), .val (.int r0), .val (.int r1), .val (.int ol), .val (.int o0), .val (.int o1), .val (.int md), .unset, .unset, .unset, .unset, .unset, .unset, .unset, .unset] [(.int (1 : Int32)), (.int fg)])
    refine own_st (fun t_ k_ => XS.iand X0.here hx rfl (hb hby at_117) rfl k_) ?_
    show own_Go p e below _ s₁ (mkF m 118 #[.val (.int rN), .val (.int oN), .val (.int fg), .val (.int cb), .val (.int rl), .val (.int r0), .val (.int r1), .val (.int ol), .val (.int o0), .val (.int o1), .val (.int md), .unset, .unset, .unset, .unset, .unset, .unset, .unset, .unset] [(.int (fg &&& (1 : Int32)))])
    refine own_joinT (α := Addr) (F := fun kr => True) (g' := fun kr => (mkF m 130 #[.val (.int rN), .val (.int oN), .val (.int fg), .val (.int cb), .val (.int rl), .val (.int r0), .val (.int r1), .val (.int ol), .val (.int o0), .val (.int o1), .val (.int md), .unset, .unset, .unset, .unset, .unset, .unset, .unset, .unset] [(.ref kr)])) X0 e0 (fun kr T4 h_kr X4 e4 => ?_) (fun J_kr => ?_)
    · show own_Go p e below _ T4 (mkF m 130 #[.val (.int rN), .val (.int oN), .val (.int fg), .val (.int cb), .val (.int rl), .val (.int r0), .val (.int r1), .val (.int ol), .val (.int o0), .val (.int o1), .val (.int md), .unset, .unset, .unset, .unset, .unset, .unset, .unset, .unset] [(.ref kr)])
      refine own_st (fun t_ k_ => XS.astore X4.here hx rfl (hb hby at_130) rfl rfl (l' := #[.val (.int rN), .val (.int oN), .val (.int fg), .val (.int cb), .val (.int rl), .val (.int r0), .val (.int r1), .val (.int ol), .val (.int o0), .val (.int o1), .val (.int md), .val (.ref kr), .unset, .unset, .unset, .unset, .unset, .unset, .unset]) rfl k_) ?_
      show own_Go p e below _ T4 (mkF m 132 #[.val (.int rN), .val (.int oN), .val (.int fg), .val (.int cb), .val (.int rl), .val (.int r0), .val (.int r1), .val (.int ol), .val (.int o0), .val (.int o1), .val (.int md), .val (.ref kr), .unset, .unset, .unset, .unset, .unset, .unset, .unset] [])
      refine own_st (fun t_ k_ => XS.iloadN X4.here hx rfl (hb hby at_132) rfl k_) ?_
      show own_Go p e below _ T4 (mkF m 133 #[.val (.int rN), .val (.int oN), .val (.int fg), .val (.int cb), .val (.int rl), .val (.int r0), .val (.int r1), .val (.int ol), .val (.int o0), .val (.int o1), .val (.int md), .val (.ref kr), .unset, .unset, .unset, .unset, .unset, .unset, .unset] [(.int fg)])
      refine own_st (fun t_ k_ => XS.iconst X4.here hx rfl (hb hby at_133) k_) ?_
      show own_Go p e below _ T4 (mkF m 134 #[.val (.int rN), .val (.int oN), .val (.int fg), .val (.int cb), .val (.int rl), .val (.int r0), .val (.int r1), .val (.int ol), .val (.int o0), .val (.int o1), .val (.int md), .val (.ref kr), .unset, .unset, .unset, .unset, .unset, .unset, .unset] [(.int (2 : Int32)), (.int fg)])
      refine own_st (fun t_ k_ => XS.iand X4.here hx rfl (hb hby at_134) rfl k_) ?_
      show own_Go p e below _ T4 (mkF m 135 #[.val (.int rN), .val (.int oN), .val (.int fg), .val (.int cb), .val (.int rl), .val (.int r0), .val (.int r1), .val (.int ol), .val (.int o0), .val (.int o1), .val (.int md), .val (.ref kr), .unset, .unset, .unset, .unset, .unset, .unset, .unset] [(.int (fg &&& (2 : Int32)))])
      refine own_join (α := Int32) (F := fun b12 => b12 = (0 : Int32) ∨ b12 = (1 : Int32)) (T' := T4) (g' := fun b12 => (mkF m 143 #[.val (.int rN), .val (.int oN), .val (.int fg), .val (.int cb), .val (.int rl), .val (.int r0), .val (.int r1), .val (.int ol), .val (.int o0), .val (.int o1), .val (.int md), .val (.ref kr), .unset, .unset, .unset, .unset, .unset, .unset, .unset] [(.int b12)])) (fun b12 h_b12 => ?_) (fun J_b12 => ?_)
      · show own_Go p e below _ T4 (mkF m 143 #[.val (.int rN), .val (.int oN), .val (.int fg), .val (.int cb), .val (.int rl), .val (.int r0), .val (.int r1), .val (.int ol), .val (.int o0), .val (.int o1), .val (.int md), .val (.ref kr), .unset, .unset, .unset, .unset, .unset, .unset, .unset] [(.int b12)])
        refine own_st (fun t_ k_ => XS.istore X4.here hx rfl (hb hby at_143) rfl (l' := #[.val (.int rN), .val (.int oN), .val (.int fg), .val (.int cb), .val (.int rl), .val (.int r0), .val (.int r1), .val (.int ol), .val (.int o0), .val (.int o1), .val (.int md), .val (.ref kr), .val (.int b12), .unset, .unset, .unset, .unset, .unset, .unset]) rfl k_) ?_
        show own_Go p e below _ T4 (mkF m 145 #[.val (.int rN), .val (.int oN), .val (.int fg), .val (.int cb), .val (.int rl), .val (.int r0), .val (.int r1), .val (.int ol), .val (.int o0), .val (.int o1), .val (.int md), .val (.ref kr), .val (.int b12), .unset, .unset, .unset, .unset, .unset, .unset] [])
        refine own_st (fun t_ k_ => XS.iload X4.here hx rfl (hb hby at_145) rfl k_) ?_
        show own_Go p e below _ T4 (mkF m 147 #[.val (.int rN), .val (.int oN), .val (.int fg), .val (.int cb), .val (.int rl), .val (.int r0), .val (.int r1), .val (.int ol), .val (.int o0), .val (.int o1), .val (.int md), .val (.ref kr), .val (.int b12), .unset, .unset, .unset, .unset, .unset, .unset] [(.int b12)])
        rcases (h_b12 : b12 = (0 : Int32) ∨ b12 = (1 : Int32)) with rfl | rfl
        · show own_Go p e below _ T4 (mkF m 147 #[.val (.int rN), .val (.int oN), .val (.int fg), .val (.int cb), .val (.int rl), .val (.int r0), .val (.int r1), .val (.int ol), .val (.int o0), .val (.int o1), .val (.int md), .val (.ref kr), .val (.int (0 : Int32)), .unset, .unset, .unset, .unset, .unset, .unset] [(.int (0 : Int32))])
          refine own_st (fun t_ k_ => XS.ifYes X4.here hx rfl (pc0 := 147) (pc' := 156) rfl (hb hby at_147) rfl (by decide) (by decide) (by decide) k_) ?_
          show own_Go p e below _ T4 (mkF m 156 #[.val (.int rN), .val (.int oN), .val (.int fg), .val (.int cb), .val (.int rl), .val (.int r0), .val (.int r1), .val (.int ol), .val (.int o0), .val (.int o1), .val (.int md), .val (.ref kr), .val (.int (0 : Int32)), .unset, .unset, .unset, .unset, .unset, .unset] [])
          obtain ⟨T9, X9, e9, st9⟩ := getS2 X4 hx hZ hown (host := "") (Or.inl (hw _ (List.mem_of_getElem? (i := 0) rfl))) Via.refl e4 (Sta.ext O0.2 SU) (g := (mkF m 156 #[.val (.int rN), .val (.int oN), .val (.int fg), .val (.int cb), .val (.int rl), .val (.int r0), .val (.int r1), .val (.int ol), .val (.int o0), .val (.int o1), .val (.int md), .val (.ref kr), .val (.int (0 : Int32)), .unset, .unset, .unset, .unset, .unset, .unset] [])) rfl (hb hby at_156)
          refine own_st st9 ?_
          show own_Go p e below _ T9 (mkF m 159 #[.val (.int rN), .val (.int oN), .val (.int fg), .val (.int cb), .val (.int rl), .val (.int r0), .val (.int r1), .val (.int ol), .val (.int o0), .val (.int o1), .val (.int md), .val (.ref kr), .val (.int (0 : Int32)), .unset, .unset, .unset, .unset, .unset, .unset] [(.ref kU)])
          refine own_st (fun t_ k_ => XS.astore X9.here hx rfl (hb hby at_159) rfl rfl (l' := #[.val (.int rN), .val (.int oN), .val (.int fg), .val (.int cb), .val (.int rl), .val (.int r0), .val (.int r1), .val (.int ol), .val (.int o0), .val (.int o1), .val (.int md), .val (.ref kr), .val (.int (0 : Int32)), .val (.ref kU), .unset, .unset, .unset, .unset, .unset]) rfl k_) ?_
          show own_Go p e below _ T9 (mkF m 161 #[.val (.int rN), .val (.int oN), .val (.int fg), .val (.int cb), .val (.int rl), .val (.int r0), .val (.int r1), .val (.int ol), .val (.int o0), .val (.int o1), .val (.int md), .val (.ref kr), .val (.int (0 : Int32)), .val (.ref kU), .unset, .unset, .unset, .unset, .unset] [])
          refine own_st (fun t_ k_ => XS.iloadN X9.here hx rfl (hb hby at_161) rfl k_) ?_
          show own_Go p e below _ T9 (mkF m 162 #[.val (.int rN), .val (.int oN), .val (.int fg), .val (.int cb), .val (.int rl), .val (.int r0), .val (.int r1), .val (.int ol), .val (.int o0), .val (.int o1), .val (.int md), .val (.ref kr), .val (.int (0 : Int32)), .val (.ref kU), .unset, .unset, .unset, .unset, .unset] [(.int cb)])
          refine own_st (fun t_ k_ => XS.sipush X9.here hx rfl (hb hby at_162) k_) ?_
          show own_Go p e below _ T9 (mkF m 165 #[.val (.int rN), .val (.int oN), .val (.int fg), .val (.int cb), .val (.int rl), .val (.int r0), .val (.int r1), .val (.int ol), .val (.int o0), .val (.int o1), .val (.int md), .val (.ref kr), .val (.int (0 : Int32)), .val (.ref kU), .unset, .unset, .unset, .unset, .unset] [(.int (255 : Int32)), (.int cb)])
          refine own_st (fun t_ k_ => XS.iand X9.here hx rfl (hb hby at_165) rfl k_) ?_
          show own_Go p e below _ T9 (mkF m 166 #[.val (.int rN), .val (.int oN), .val (.int fg), .val (.int cb), .val (.int rl), .val (.int r0), .val (.int r1), .val (.int ol), .val (.int o0), .val (.int o1), .val (.int md), .val (.ref kr), .val (.int (0 : Int32)), .val (.ref kU), .unset, .unset, .unset, .unset, .unset] [(.int (cb &&& (255 : Int32)))])
          refine own_st (fun t_ k_ => XS.i2c X9.here hx rfl (hb hby at_166) rfl k_) ?_
          show own_Go p e below _ T9 (mkF m 167 #[.val (.int rN), .val (.int oN), .val (.int fg), .val (.int cb), .val (.int rl), .val (.int r0), .val (.int r1), .val (.int ol), .val (.int o0), .val (.int o1), .val (.int md), .val (.ref kr), .val (.int (0 : Int32)), .val (.ref kU), .unset, .unset, .unset, .unset, .unset] [(.int ((cb &&& (255 : Int32)).toUInt32.toUInt16.toUInt32.toInt32))])
          have d_cc : own_L ((cb &&& (255 : Int32)).toUInt32.toUInt16.toUInt32.toInt32) := own_i2cL _
          generalize h_cc : ((cb &&& (255 : Int32)).toUInt32.toUInt16.toUInt32.toInt32) = cc at d_cc ⊢
          show own_Go p e below _ T9 (mkF m 167 #[.val (.int rN), .val (.int oN), .val (.int fg), .val (.int cb), .val (.int rl), .val (.int r0), .val (.int r1), .val (.int ol), .val (.int o0), .val (.int o1), .val (.int md), .val (.ref kr), .val (.int (0 : Int32)), .val (.ref kU), .unset, .unset, .unset, .unset, .unset] [(.int cc)])
          refine own_st (fun t_ k_ => XS.istore X9.here hx rfl (hb hby at_167) rfl (l' := #[.val (.int rN), .val (.int oN), .val (.int fg), .val (.int cb), .val (.int rl), .val (.int r0), .val (.int r1), .val (.int ol), .val (.int o0), .val (.int o1), .val (.int md), .val (.ref kr), .val (.int (0 : Int32)), .val (.ref kU), .val (.int cc), .unset, .unset, .unset, .unset]) rfl k_) ?_
          show own_Go p e below _ T9 (mkF m 169 #[.val (.int rN), .val (.int oN), .val (.int fg), .val (.int cb), .val (.int rl), .val (.int r0), .val (.int r1), .val (.int ol), .val (.int o0), .val (.int o1), .val (.int md), .val (.ref kr), .val (.int (0 : Int32)), .val (.ref kU), .val (.int cc), .unset, .unset, .unset, .unset] [])
          obtain ⟨T10, h10, X10, e10, E10, A10, D10, cel10, st10⟩ := newO X9 hx hZ hown (hw _ (List.mem_of_getElem? (i := 5) rfl)) (hw _ (List.mem_of_getElem? (i := 6) rfl)) (hw _ (List.mem_of_getElem? (i := 7) rfl)) e9 (g := (mkF m 169 #[.val (.int rN), .val (.int oN), .val (.int fg), .val (.int cb), .val (.int rl), .val (.int r0), .val (.int r1), .val (.int ol), .val (.int o0), .val (.int o1), .val (.int md), .val (.ref kr), .val (.int (0 : Int32)), .val (.ref kU), .val (.int cc), .unset, .unset, .unset, .unset] [])) rfl (hb hby at_169) (by decide) (by decide)
          obtain ⟨nb10, g10⟩ : ∃ z, z = h0.size := ⟨_, rfl⟩
          rw [← g10] at A10 D10 cel10 st10
          refine own_st st10 ?_
          have g_nb10 : n0 ≤ nb10 := Nat.le_trans (Nat.le_trans Z0 (Keep.refl h0 []).1) (Nat.le_of_eq g10.symm)
          have K10 : Keep h0 h10 [] := (Keep.refl h0 []).ext E10
          have sz_nb10 : h0.size ≤ nb10 := Nat.le_trans (Keep.refl h0 []).1 (Nat.le_of_eq g10.symm)
          have B10 := own_Bk.ext E10 B0
          have Sf10 := Safe.ext E10 (own_Bk.ch B0) (Safe.new (Nat.le_of_eq g10.symm))
          have F10_client : Fld Z h10 nb10 "com/example/gentle_nudge/gentlenudge/server/ChannelOwner" "client" "Ljava/lang/String;" .null := D10 (Or.inr (hw _ (List.mem_of_getElem? (i := 59) rfl))) (ty := (.object "java/lang/String")) (by decide)
          have F10_kind : Fld Z h10 nb10 "com/example/gentle_nudge/gentlenudge/server/ChannelOwner" "kind" "Lcom/example/gentle_nudge/gentlenudge/server/AccountKind;" .null := D10 (Or.inr (hw _ (List.mem_of_getElem? (i := 61) rfl))) (ty := (.object "com/example/gentle_nudge/gentlenudge/server/AccountKind")) (by decide)
          have F10_name : Fld Z h10 nb10 "com/example/gentle_nudge/gentlenudge/server/ChannelOwner" "name" "Ljava/lang/String;" .null := D10 (Or.inr (hw _ (List.mem_of_getElem? (i := 63) rfl))) (ty := (.object "java/lang/String")) (by decide)
          show own_Go p e below _ T10 (mkF m 172 #[.val (.int rN), .val (.int oN), .val (.int fg), .val (.int cb), .val (.int rl), .val (.int r0), .val (.int r1), .val (.int ol), .val (.int o0), .val (.int o1), .val (.int md), .val (.ref kr), .val (.int (0 : Int32)), .val (.ref kU), .val (.int cc), .unset, .unset, .unset, .unset] [(.ref nb10)])
          refine own_st (fun t_ k_ => XS.dup X10.here hx rfl (hb hby at_172) rfl rfl k_) ?_
          show own_Go p e below _ T10 (mkF m 173 #[.val (.int rN), .val (.int oN), .val (.int fg), .val (.int cb), .val (.int rl), .val (.int r0), .val (.int r1), .val (.int ol), .val (.int o0), .val (.int o1), .val (.int md), .val (.ref kr), .val (.int (0 : Int32)), .val (.ref kU), .val (.int cc), .unset, .unset, .unset, .unset] [(.ref nb10), (.ref nb10)])
          refine own_st (fun t_ k_ => XS.iload X10.here hx rfl (hb hby at_173) rfl k_) ?_
          show own_Go p e below _ T10 (mkF m 175 #[.val (.int rN), .val (.int oN), .val (.int fg), .val (.int cb), .val (.int rl), .val (.int r0), .val (.int r1), .val (.int ol), .val (.int o0), .val (.int o1), .val (.int md), .val (.ref kr), .val (.int (0 : Int32)), .val (.ref kU), .val (.int cc), .unset, .unset, .unset, .unset] [(.int cc), (.ref nb10), (.ref nb10)])
          have f11 := (O0.ext E10)
          refine own_callS X10 hx (y := (⟨"java/lang/String", "valueOf", "(C)Ljava/lang/String;"⟩ : MethodName)) hown (mvT hZ (hw _ (List.mem_of_getElem? (i := 8) rfl))) (mvT hZ (hw _ (List.mem_of_getElem? (i := 9) rfl))) (mvT hZ (hw _ (List.mem_of_getElem? (i := 10) rfl))) (mvT hZ (hw _ (List.mem_of_getElem? (i := 11) rfl))) (by decide) (backOf (W := 2) (rmVO l Z a0 hw [] cc G h10 n0 (Nat.le_trans Z0 K10.1) SC hCS f11 d_cc) hZ (hw _ (List.mem_of_getElem? (i := 11) rfl)) (hw _ (List.mem_of_getElem? (i := 10) rfl)) (by decide) (by decide)) (g := (mkF m 175 #[.val (.int rN), .val (.int oN), .val (.int fg), .val (.int cb), .val (.int rl), .val (.int r0), .val (.int r1), .val (.int ol), .val (.int o0), .val (.int o1), .val (.int md), .val (.ref kr), .val (.int (0 : Int32)), .val (.ref kU), .val (.int cc), .unset, .unset, .unset, .unset] [(.int cc), (.ref nb10), (.ref nb10)])) rfl (by rw [hml]; rfl) (argsL := [(.int cc)]) (rest := [(.ref nb10), (.ref nb10)]) (lenOf pd_10 rfl) rfl (by show 2 * 0 + _ ≤ _; exact Nat.le_of_eq rfl) (hb hby at_175) rfl e10 (by decide) (by decide) ?_
          rintro v12 T12 L12 X12 ⟨v12_, rfl, Nq12, Kq12, gt12, g_v12_⟩
          have N12 := Fr.app N0 Nq12
          have K12 : Keep h0 T12.heap [] := K10.trans Kq12 all0
          have B12 := own_Bk.keep Kq12 sf0 B10
          show own_Go p e below _ T12 (mkF m 178 #[.val (.int rN), .val (.int oN), .val (.int fg), .val (.int cb), .val (.int rl), .val (.int r0), .val (.int r1), .val (.int ol), .val (.int o0), .val (.int o1), .val (.int md), .val (.ref kr), .val (.int (0 : Int32)), .val (.ref kU), .val (.int cc), .unset, .unset, .unset, .unset] [(.ref v12_), (.ref nb10), (.ref nb10)])
          refine own_st (fun t_ k_ => XS.aload X12.here hx rfl (hb hby at_178) rfl rfl k_) ?_
          show own_Go p e below _ T12 (mkF m 180 #[.val (.int rN), .val (.int oN), .val (.int fg), .val (.int cb), .val (.int rl), .val (.int r0), .val (.int r1), .val (.int ol), .val (.int o0), .val (.int o1), .val (.int md), .val (.ref kr), .val (.int (0 : Int32)), .val (.ref kU), .val (.int cc), .unset, .unset, .unset, .unset] [(.ref kr), (.ref v12_), (.ref nb10), (.ref nb10)])
          refine own_st (fun t_ k_ => XS.iload X12.here hx rfl (hb hby at_180) rfl k_) ?_
          show own_Go p e below _ T12 (mkF m 182 #[.val (.int rN), .val (.int oN), .val (.int fg), .val (.int cb), .val (.int rl), .val (.int r0), .val (.int r1), .val (.int ol), .val (.int o0), .val (.int o1), .val (.int md), .val (.ref kr), .val (.int (0 : Int32)), .val (.ref kU), .val (.int cc), .unset, .unset, .unset, .unset] [(.int rl), (.ref kr), (.ref v12_), (.ref nb10), (.ref nb10)])
          refine own_st (fun t_ k_ => XS.iload X12.here hx rfl (hb hby at_182) rfl k_) ?_
          show own_Go p e below _ T12 (mkF m 184 #[.val (.int rN), .val (.int oN), .val (.int fg), .val (.int cb), .val (.int rl), .val (.int r0), .val (.int r1), .val (.int ol), .val (.int o0), .val (.int o1), .val (.int md), .val (.ref kr), .val (.int (0 : Int32)), .val (.ref kU), .val (.int cc), .unset, .unset, .unset, .unset] [(.int r0), (.int rl), (.ref kr), (.ref v12_), (.ref nb10), (.ref nb10)])
          refine own_st (fun t_ k_ => XS.iload X12.here hx rfl (hb hby at_184) rfl k_) ?_
          show own_Go p e below _ T12 (mkF m 186 #[.val (.int rN), .val (.int oN), .val (.int fg), .val (.int cb), .val (.int rl), .val (.int r0), .val (.int r1), .val (.int ol), .val (.int o0), .val (.int o1), .val (.int md), .val (.ref kr), .val (.int (0 : Int32)), .val (.ref kU), .val (.int cc), .unset, .unset, .unset, .unset] [(.int r1), (.int r0), (.int rl), (.ref kr), (.ref v12_), (.ref nb10), (.ref nb10)])
          have f13 := (f11.keep Kq12 all0)
          have f15 := (Safe.keep Kq12 sf0 (own_Bk.ch B10) Sf10)
          refine own_callSS X12 hx (y := (⟨"com/example/gentle_nudge/gentlenudge/server/ChannelOwnerMayStopChannelOfPinLaw", "mk", "(ICC)Ljava/lang/String;"⟩ : MethodName)) hown (mvT hZ (hw _ (List.mem_of_getElem? (i := 34) rfl))) (mvT hZ (hw _ (List.mem_of_getElem? (i := 35) rfl))) (mvT hZ (hw _ (List.mem_of_getElem? (i := 36) rfl))) (mvT hZ (hw _ (List.mem_of_getElem? (i := 37) rfl))) (by decide) (backOfSH (W := 4) (rmMK l Z a0 hw [] rl r0 r1 G T12.heap n0 (Nat.le_trans Z0 K12.1) SC hCS f13 d_r0 d_r1) hZ (hw _ (List.mem_of_getElem? (i := 37) rfl)) (hw _ (List.mem_of_getElem? (i := 36) rfl)) (by decide) (by decide) hEL (own_Bk.ch B12)) (g := (mkF m 186 #[.val (.int rN), .val (.int oN), .val (.int fg), .val (.int cb), .val (.int rl), .val (.int r0), .val (.int r1), .val (.int ol), .val (.int o0), .val (.int o1), .val (.int md), .val (.ref kr), .val (.int (0 : Int32)), .val (.ref kU), .val (.int cc), .unset, .unset, .unset, .unset] [(.int r1), (.int r0), (.int rl), (.ref kr), (.ref v12_), (.ref nb10), (.ref nb10)])) rfl (by rw [hml]; rfl) (argsL := [(.int rl), (.int r0), (.int r1)]) (rest := [(.ref kr), (.ref v12_), (.ref nb10), (.ref nb10)]) (lenOf pd_11 rfl) rfl (by show 2 * 0 + _ ≤ _; exact Nat.le_of_eq rfl) (hb hby at_186) rfl rfl (by decide) (by decide) hZ B12 ?_
          rintro v14 T14 L14 X14 ⟨x14, t14, kb14, rfl, Nq14, Kq14, gx14, g_x14, nt14, Ex14, Cq14, Vq14, Aq14, hp14⟩ CH14 B14 hZ hown
          have N14 := Fr.app N12 Nq14
          have K14 : Keep h0 T14.heap [] := K12.trans Kq14 all0
          have sz_x14 : h0.size ≤ x14 := Nat.le_trans K12.1 gx14
          show own_Go p e below _ T14 (mkF m 189 #[.val (.int rN), .val (.int oN), .val (.int fg), .val (.int cb), .val (.int rl), .val (.int r0), .val (.int r1), .val (.int ol), .val (.int o0), .val (.int o1), .val (.int md), .val (.ref kr), .val (.int (0 : Int32)), .val (.ref kU), .val (.int cc), .unset, .unset, .unset, .unset] [(.ref x14), (.ref kr), (.ref v12_), (.ref nb10), (.ref nb10)])
          have f16 := (A10.keep Kq12)
          have f17 := (f16.keep Kq14)
          have f18 := (F10_client.keep Kq12 nin0)
          have f19 := (f18.keep Kq14 nin0)
          have f20 := (F10_kind.keep Kq12 nin0)
          have f21 := (f20.keep Kq14 nin0)
          have f22 := (F10_name.keep Kq12 nin0)
          have f23 := (f22.keep Kq14 nin0)
          refine own_callN X14 hx (y := (⟨"com/example/gentle_nudge/gentlenudge/server/ChannelOwner", "<init>", "(Ljava/lang/String;Lcom/example/gentle_nudge/gentlenudge/server/AccountKind;Ljava/lang/String;)V"⟩ : MethodName)) rfl hown (mvT hZ (hw _ (List.mem_of_getElem? (i := 49) rfl))) (mvT hZ (hw _ (List.mem_of_getElem? (i := 50) rfl))) (mvT hZ (hw _ (List.mem_of_getElem? (i := 51) rfl))) (by decide) (backOf (W := 1) (rmCI l Z a0 hw [] nb10 v12_ kr x14 T14.heap n0 (Nat.le_trans Z0 K14.1) g_nb10 f17 f19 f21 f23) hZ (hw _ (List.mem_of_getElem? (i := 51) rfl)) (hw _ (List.mem_of_getElem? (i := 7) rfl)) (by decide) (by decide)) (a := nb10) (g := (mkF m 189 #[.val (.int rN), .val (.int oN), .val (.int fg), .val (.int cb), .val (.int rl), .val (.int r0), .val (.int r1), .val (.int ol), .val (.int o0), .val (.int o1), .val (.int md), .val (.ref kr), .val (.int (0 : Int32)), .val (.ref kU), .val (.int cc), .unset, .unset, .unset, .unset] [(.ref x14), (.ref kr), (.ref v12_), (.ref nb10), (.ref nb10)])) rfl (by rw [hml]; rfl) (argsL := [(.ref v12_), (.ref kr), (.ref x14)]) (rest := [(.ref nb10)]) (lenOf pd_12 rfl) rfl (by show 2 * 0 + _ ≤ _; exact Nat.le_of_eq rfl) (hb hby at_189) rfl rfl (by decide) (by decide) ?_
          rintro v24 T24 L24 X24 ⟨rfl, Nq24, Kq24, Eq24, Fk24, Fn24⟩
          have N24 := Fr.app N14 Nq24
          have K24 : Keep h0 T24.heap [] := K14.trans Kq24 (allS (Or.inr sz_nb10) all0)
          have f25 := (CHr.safe CH14 f16.lt f15)
          have B24 := own_Bk.keep Kq24 (sfS f25 sf0) B14
          show own_Go p e below _ T24 (mkF m 192 #[.val (.int rN), .val (.int oN), .val (.int fg), .val (.int cb), .val (.int rl), .val (.int r0), .val (.int r1), .val (.int ol), .val (.int o0), .val (.int o1), .val (.int md), .val (.ref kr), .val (.int (0 : Int32)), .val (.ref kU), .val (.int cc), .unset, .unset, .unset, .unset] [(.ref nb10)])
          refine own_st (fun t_ k_ => XS.astore X24.here hx rfl (hb hby at_192) rfl rfl (l' := #[.val (.int rN), .val (.int oN), .val (.int fg), .val (.int cb), .val (.int rl), .val (.int r0), .val (.int r1), .val (.int ol), .val (.int o0), .val (.int o1), .val (.int md), .val (.ref kr), .val (.int (0 : Int32)), .val (.ref kU), .val (.int cc), .val (.ref nb10), .unset, .unset, .unset]) rfl k_) ?_
          show own_Go p e below _ T24 (mkF m 194 #[.val (.int rN), .val (.int oN), .val (.int fg), .val (.int cb), .val (.int rl), .val (.int r0), .val (.int r1), .val (.int ol), .val (.int o0), .val (.int o1), .val (.int md), .val (.ref kr), .val (.int (0 : Int32)), .val (.ref kU), .val (.int cc), .val (.ref nb10), .unset, .unset, .unset] [])
          obtain ⟨T26, h26, X26, e26, E26, A26, D26, cel26, st26⟩ := newO X24 hx hZ hown (hw _ (List.mem_of_getElem? (i := 5) rfl)) (hw _ (List.mem_of_getElem? (i := 6) rfl)) (hw _ (List.mem_of_getElem? (i := 7) rfl)) rfl (g := (mkF m 194 #[.val (.int rN), .val (.int oN), .val (.int fg), .val (.int cb), .val (.int rl), .val (.int r0), .val (.int r1), .val (.int ol), .val (.int o0), .val (.int o1), .val (.int md), .val (.ref kr), .val (.int (0 : Int32)), .val (.ref kU), .val (.int cc), .val (.ref nb10), .unset, .unset, .unset] [])) rfl (hb hby at_194) (by decide) (by decide)
          obtain ⟨nb26, g26⟩ : ∃ z, z = T24.heap.size := ⟨_, rfl⟩
          rw [← g26] at A26 D26 cel26 st26
          refine own_st st26 ?_
          have g_nb26 : n0 ≤ nb26 := Nat.le_trans (Nat.le_trans Z0 K24.1) (Nat.le_of_eq g26.symm)
          have K26 : Keep h0 h26 [] := K24.ext E26
          have sz_nb26 : h0.size ≤ nb26 := Nat.le_trans K24.1 (Nat.le_of_eq g26.symm)
          have B26 := own_Bk.ext E26 B24
          have Sf26 := Safe.ext E26 (own_Bk.ch B24) (Safe.new (Nat.le_of_eq g26.symm))
          have F26_client : Fld Z h26 nb26 "com/example/gentle_nudge/gentlenudge/server/ChannelOwner" "client" "Ljava/lang/String;" .null := D26 (Or.inr (hw _ (List.mem_of_getElem? (i := 59) rfl))) (ty := (.object "java/lang/String")) (by decide)
          have F26_kind : Fld Z h26 nb26 "com/example/gentle_nudge/gentlenudge/server/ChannelOwner" "kind" "Lcom/example/gentle_nudge/gentlenudge/server/AccountKind;" .null := D26 (Or.inr (hw _ (List.mem_of_getElem? (i := 61) rfl))) (ty := (.object "com/example/gentle_nudge/gentlenudge/server/AccountKind")) (by decide)
          have F26_name : Fld Z h26 nb26 "com/example/gentle_nudge/gentlenudge/server/ChannelOwner" "name" "Ljava/lang/String;" .null := D26 (Or.inr (hw _ (List.mem_of_getElem? (i := 63) rfl))) (ty := (.object "java/lang/String")) (by decide)
          show own_Go p e below _ T26 (mkF m 197 #[.val (.int rN), .val (.int oN), .val (.int fg), .val (.int cb), .val (.int rl), .val (.int r0), .val (.int r1), .val (.int ol), .val (.int o0), .val (.int o1), .val (.int md), .val (.ref kr), .val (.int (0 : Int32)), .val (.ref kU), .val (.int cc), .val (.ref nb10), .unset, .unset, .unset] [(.ref nb26)])
          refine own_st (fun t_ k_ => XS.dup X26.here hx rfl (hb hby at_197) rfl rfl k_) ?_
          show own_Go p e below _ T26 (mkF m 198 #[.val (.int rN), .val (.int oN), .val (.int fg), .val (.int cb), .val (.int rl), .val (.int r0), .val (.int r1), .val (.int ol), .val (.int o0), .val (.int o1), .val (.int md), .val (.ref kr), .val (.int (0 : Int32)), .val (.ref kU), .val (.int cc), .val (.ref nb10), .unset, .unset, .unset] [(.ref nb26), (.ref nb26)])
          refine own_st (fun t_ k_ => XS.iload X26.here hx rfl (hb hby at_198) rfl k_) ?_
          show own_Go p e below _ T26 (mkF m 200 #[.val (.int rN), .val (.int oN), .val (.int fg), .val (.int cb), .val (.int rl), .val (.int r0), .val (.int r1), .val (.int ol), .val (.int o0), .val (.int o1), .val (.int md), .val (.ref kr), .val (.int (0 : Int32)), .val (.ref kU), .val (.int cc), .val (.ref nb10), .unset, .unset, .unset] [(.int cc), (.ref nb26), (.ref nb26)])
          have f27 := (f13.keep Kq14 all0)
          have f28 := (f27.keep Kq24 (allS g_nb10 all0))
          have f29 := (f28.ext E26)
          refine own_callS X26 hx (y := (⟨"java/lang/String", "valueOf", "(C)Ljava/lang/String;"⟩ : MethodName)) hown (mvT hZ (hw _ (List.mem_of_getElem? (i := 8) rfl))) (mvT hZ (hw _ (List.mem_of_getElem? (i := 9) rfl))) (mvT hZ (hw _ (List.mem_of_getElem? (i := 10) rfl))) (mvT hZ (hw _ (List.mem_of_getElem? (i := 11) rfl))) (by decide) (backOf (W := 2) (rmVO l Z a0 hw [] cc G h26 n0 (Nat.le_trans Z0 K26.1) SC hCS f29 d_cc) hZ (hw _ (List.mem_of_getElem? (i := 11) rfl)) (hw _ (List.mem_of_getElem? (i := 10) rfl)) (by decide) (by decide)) (g := (mkF m 200 #[.val (.int rN), .val (.int oN), .val (.int fg), .val (.int cb), .val (.int rl), .val (.int r0), .val (.int r1), .val (.int ol), .val (.int o0), .val (.int o1), .val (.int md), .val (.ref kr), .val (.int (0 : Int32)), .val (.ref kU), .val (.int cc), .val (.ref nb10), .unset, .unset, .unset] [(.int cc), (.ref nb26), (.ref nb26)])) rfl (by rw [hml]; rfl) (argsL := [(.int cc)]) (rest := [(.ref nb26), (.ref nb26)]) (lenOf pd_10 rfl) rfl (by show 2 * 0 + _ ≤ _; exact Nat.le_of_eq rfl) (hb hby at_200) rfl e26 (by decide) (by decide) ?_
          rintro v30 T30 L30 X30 ⟨v30_, rfl, Nq30, Kq30, gt30, g_v30_⟩
          have N30 := Fr.app N24 Nq30
          have K30 : Keep h0 T30.heap [] := K26.trans Kq30 all0
          have B30 := own_Bk.keep Kq30 sf0 B26
          show own_Go p e below _ T30 (mkF m 203 #[.val (.int rN), .val (.int oN), .val (.int fg), .val (.int cb), .val (.int rl), .val (.int r0), .val (.int r1), .val (.int ol), .val (.int o0), .val (.int o1), .val (.int md), .val (.ref kr), .val (.int (0 : Int32)), .val (.ref kU), .val (.int cc), .val (.ref nb10), .unset, .unset, .unset] [(.ref v30_), (.ref nb26), (.ref nb26)])
          refine own_st (fun t_ k_ => XS.aload X30.here hx rfl (hb hby at_203) rfl rfl k_) ?_
          show own_Go p e below _ T30 (mkF m 205 #[.val (.int rN), .val (.int oN), .val (.int fg), .val (.int cb), .val (.int rl), .val (.int r0), .val (.int r1), .val (.int ol), .val (.int o0), .val (.int o1), .val (.int md), .val (.ref kr), .val (.int (0 : Int32)), .val (.ref kU), .val (.int cc), .val (.ref nb10), .unset, .unset, .unset] [(.ref kU), (.ref v30_), (.ref nb26), (.ref nb26)])
          refine own_st (fun t_ k_ => XS.iload X30.here hx rfl (hb hby at_205) rfl k_) ?_
          show own_Go p e below _ T30 (mkF m 207 #[.val (.int rN), .val (.int oN), .val (.int fg), .val (.int cb), .val (.int rl), .val (.int r0), .val (.int r1), .val (.int ol), .val (.int o0), .val (.int o1), .val (.int md), .val (.ref kr), .val (.int (0 : Int32)), .val (.ref kU), .val (.int cc), .val (.ref nb10), .unset, .unset, .unset] [(.int ol), (.ref kU), (.ref v30_), (.ref nb26), (.ref nb26)])
          refine own_st (fun t_ k_ => XS.iload X30.here hx rfl (hb hby at_207) rfl k_) ?_
          show own_Go p e below _ T30 (mkF m 209 #[.val (.int rN), .val (.int oN), .val (.int fg), .val (.int cb), .val (.int rl), .val (.int r0), .val (.int r1), .val (.int ol), .val (.int o0), .val (.int o1), .val (.int md), .val (.ref kr), .val (.int (0 : Int32)), .val (.ref kU), .val (.int cc), .val (.ref nb10), .unset, .unset, .unset] [(.int o0), (.int ol), (.ref kU), (.ref v30_), (.ref nb26), (.ref nb26)])
          refine own_st (fun t_ k_ => XS.iload X30.here hx rfl (hb hby at_209) rfl k_) ?_
          show own_Go p e below _ T30 (mkF m 211 #[.val (.int rN), .val (.int oN), .val (.int fg), .val (.int cb), .val (.int rl), .val (.int r0), .val (.int r1), .val (.int ol), .val (.int o0), .val (.int o1), .val (.int md), .val (.ref kr), .val (.int (0 : Int32)), .val (.ref kU), .val (.int cc), .val (.ref nb10), .unset, .unset, .unset] [(.int o1), (.int o0), (.int ol), (.ref kU), (.ref v30_), (.ref nb26), (.ref nb26)])
          have f31 := (f29.keep Kq30 all0)
          have f33 := (Safe.keep Kq24 (sfS f25 sf0) (own_Bk.ch B14) f25)
          have f34 := (Safe.ext E26 (own_Bk.ch B24) f33)
          have f35 := (Safe.keep Kq30 sf0 (own_Bk.ch B26) f34)
          have f36 := (Safe.keep Kq30 sf0 (own_Bk.ch B26) Sf26)
          refine own_callSS X30 hx (y := (⟨"com/example/gentle_nudge/gentlenudge/server/ChannelOwnerMayStopChannelOfPinLaw", "mk", "(ICC)Ljava/lang/String;"⟩ : MethodName)) hown (mvT hZ (hw _ (List.mem_of_getElem? (i := 34) rfl))) (mvT hZ (hw _ (List.mem_of_getElem? (i := 35) rfl))) (mvT hZ (hw _ (List.mem_of_getElem? (i := 36) rfl))) (mvT hZ (hw _ (List.mem_of_getElem? (i := 37) rfl))) (by decide) (backOfSH (W := 4) (rmMK l Z a0 hw [] ol o0 o1 G T30.heap n0 (Nat.le_trans Z0 K30.1) SC hCS f31 d_o0 d_o1) hZ (hw _ (List.mem_of_getElem? (i := 37) rfl)) (hw _ (List.mem_of_getElem? (i := 36) rfl)) (by decide) (by decide) hEL (own_Bk.ch B30)) (g := (mkF m 211 #[.val (.int rN), .val (.int oN), .val (.int fg), .val (.int cb), .val (.int rl), .val (.int r0), .val (.int r1), .val (.int ol), .val (.int o0), .val (.int o1), .val (.int md), .val (.ref kr), .val (.int (0 : Int32)), .val (.ref kU), .val (.int cc), .val (.ref nb10), .unset, .unset, .unset] [(.int o1), (.int o0), (.int ol), (.ref kU), (.ref v30_), (.ref nb26), (.ref nb26)])) rfl (by rw [hml]; rfl) (argsL := [(.int ol), (.int o0), (.int o1)]) (rest := [(.ref kU), (.ref v30_), (.ref nb26), (.ref nb26)]) (lenOf pd_11 rfl) rfl (by show 2 * 0 + _ ≤ _; exact Nat.le_of_eq rfl) (hb hby at_211) rfl rfl (by decide) (by decide) hZ B30 ?_
          rintro v32 T32 L32 X32 ⟨x32, t32, kb32, rfl, Nq32, Kq32, gx32, g_x32, nt32, Ex32, Cq32, Vq32, Aq32, hp32⟩ CH32 B32 hZ hown
          have N32 := Fr.app N30 Nq32
          have K32 : Keep h0 T32.heap [] := K30.trans Kq32 all0
          have sz_x32 : h0.size ≤ x32 := Nat.le_trans K30.1 gx32
          show own_Go p e below _ T32 (mkF m 214 #[.val (.int rN), .val (.int oN), .val (.int fg), .val (.int cb), .val (.int rl), .val (.int r0), .val (.int r1), .val (.int ol), .val (.int o0), .val (.int o1), .val (.int md), .val (.ref kr), .val (.int (0 : Int32)), .val (.ref kU), .val (.int cc), .val (.ref nb10), .unset, .unset, .unset] [(.ref x32), (.ref kU), (.ref v30_), (.ref nb26), (.ref nb26)])
          have f37 := (A26.keep Kq30)
          have f38 := (f37.keep Kq32)
          have f39 := (F26_client.keep Kq30 nin0)
          have f40 := (f39.keep Kq32 nin0)
          have f41 := (F26_kind.keep Kq30 nin0)
          have f42 := (f41.keep Kq32 nin0)
          have f43 := (F26_name.keep Kq30 nin0)
          have f44 := (f43.keep Kq32 nin0)
          refine own_callN X32 hx (y := (⟨"com/example/gentle_nudge/gentlenudge/server/ChannelOwner", "<init>", "(Ljava/lang/String;Lcom/example/gentle_nudge/gentlenudge/server/AccountKind;Ljava/lang/String;)V"⟩ : MethodName)) rfl hown (mvT hZ (hw _ (List.mem_of_getElem? (i := 49) rfl))) (mvT hZ (hw _ (List.mem_of_getElem? (i := 50) rfl))) (mvT hZ (hw _ (List.mem_of_getElem? (i := 51) rfl))) (by decide) (backOf (W := 1) (rmCI l Z a0 hw [] nb26 v30_ kU x32 T32.heap n0 (Nat.le_trans Z0 K32.1) g_nb26 f38 f40 f42 f44) hZ (hw _ (List.mem_of_getElem? (i := 51) rfl)) (hw _ (List.mem_of_getElem? (i := 7) rfl)) (by decide) (by decide)) (a := nb26) (g := (mkF m 214 #[.val (.int rN), .val (.int oN), .val (.int fg), .val (.int cb), .val (.int rl), .val (.int r0), .val (.int r1), .val (.int ol), .val (.int o0), .val (.int o1), .val (.int md), .val (.ref kr), .val (.int (0 : Int32)), .val (.ref kU), .val (.int cc), .val (.ref nb10), .unset, .unset, .unset] [(.ref x32), (.ref kU), (.ref v30_), (.ref nb26), (.ref nb26)])) rfl (by rw [hml]; rfl) (argsL := [(.ref v30_), (.ref kU), (.ref x32)]) (rest := [(.ref nb26)]) (lenOf pd_12 rfl) rfl (by show 2 * 0 + _ ≤ _; exact Nat.le_of_eq rfl) (hb hby at_214) rfl rfl (by decide) (by decide) ?_
          rintro v45 T45 L45 X45 ⟨rfl, Nq45, Kq45, Eq45, Fk45, Fn45⟩
          have N45 := Fr.app N32 Nq45
          have K45 : Keep h0 T45.heap [] := K32.trans Kq45 (allS (Or.inr sz_nb26) all0)
          have f46 := (CHr.safe CH32 f37.lt f36)
          have B45 := own_Bk.keep Kq45 (sfS f46 sf0) B32
          show own_Go p e below _ T45 (mkF m 217 #[.val (.int rN), .val (.int oN), .val (.int fg), .val (.int cb), .val (.int rl), .val (.int r0), .val (.int r1), .val (.int ol), .val (.int o0), .val (.int o1), .val (.int md), .val (.ref kr), .val (.int (0 : Int32)), .val (.ref kU), .val (.int cc), .val (.ref nb10), .unset, .unset, .unset] [(.ref nb26)])
          refine own_st (fun t_ k_ => XS.astore X45.here hx rfl (hb hby at_217) rfl rfl (l' := #[.val (.int rN), .val (.int oN), .val (.int fg), .val (.int cb), .val (.int rl), .val (.int r0), .val (.int r1), .val (.int ol), .val (.int o0), .val (.int o1), .val (.int md), .val (.ref kr), .val (.int (0 : Int32)), .val (.ref kU), .val (.int cc), .val (.ref nb10), .val (.ref nb26), .unset, .unset]) rfl k_) ?_
          show own_Go p e below _ T45 (mkF m 219 #[.val (.int rN), .val (.int oN), .val (.int fg), .val (.int cb), .val (.int rl), .val (.int r0), .val (.int r1), .val (.int ol), .val (.int o0), .val (.int o1), .val (.int md), .val (.ref kr), .val (.int (0 : Int32)), .val (.ref kU), .val (.int cc), .val (.ref nb10), .val (.ref nb26), .unset, .unset] [])
          refine own_st (fun t_ k_ => XS.aload X45.here hx rfl (hb hby at_219) rfl rfl k_) ?_
          show own_Go p e below _ T45 (mkF m 221 #[.val (.int rN), .val (.int oN), .val (.int fg), .val (.int cb), .val (.int rl), .val (.int r0), .val (.int r1), .val (.int ol), .val (.int o0), .val (.int o1), .val (.int md), .val (.ref kr), .val (.int (0 : Int32)), .val (.ref kU), .val (.int cc), .val (.ref nb10), .val (.ref nb26), .unset, .unset] [(.ref nb10)])
          refine own_st (fun t_ k_ => XS.aload X45.here hx rfl (hb hby at_221) rfl rfl k_) ?_
          show own_Go p e below _ T45 (mkF m 223 #[.val (.int rN), .val (.int oN), .val (.int fg), .val (.int cb), .val (.int rl), .val (.int r0), .val (.int r1), .val (.int ol), .val (.int o0), .val (.int o1), .val (.int md), .val (.ref kr), .val (.int (0 : Int32)), .val (.ref kU), .val (.int cc), .val (.ref nb10), .val (.ref nb26), .unset, .unset] [(.ref nb26), (.ref nb10)])
          have f47 := (Fld.ext E26 Fn24)
          have f48 := (f47.keep Kq30 nin0)
          have f49 := (f48.keep Kq32 nin0)
          have ne50 : nb10 ≠ nb26 := (Nat.ne_of_lt (Nat.lt_of_lt_of_le Eq24.lt (Nat.le_of_eq g26.symm)))
          have f51 := (f49.keep Kq45 (ninS ne50 nin0))
          have f52 := (Exa.ext E26 Eq24)
          have f53 := (f52.keep Kq30)
          have f54 := (f53.keep Kq32)
          have f55 := (f54.keep Kq45)
          have f56 := (Exa.ext E10 EU)
          have f57 := (f56.keep Kq12)
          have f58 := (f57.keep Kq14)
          have f59 := (f58.keep Kq24)
          have f60 := (Exa.ext E26 f59)
          have f61 := (f60.keep Kq30)
          have f62 := (f61.keep Kq32)
          have f63 := (f62.keep Kq45)
          have f64 := (f31.keep Kq32 all0)
          have f65 := (f64.keep Kq45 (allS g_nb26 all0))
          have f66 := (As.ext E10)
          have f67 := (f66.keep Kq12 nin0)
          have f68 := (f67.keep Kq14 nin0)
          have ne69 : sm ≠ nb10 := (Nat.ne_of_lt (Nat.lt_of_lt_of_le As.lt (Nat.le_of_eq g10.symm)))
          have f70 := (f68.keep Kq24 (ninS ne69 nin0))
          have f71 := (f70.ext E26)
          have f72 := (f71.keep Kq30 nin0)
          have f73 := (f72.keep Kq32 nin0)
          have f75 := (f68.keep Kq24 (ninS ne69 nin0))
          have ne74 : sm ≠ nb26 := (Nat.ne_of_lt (Nat.lt_of_lt_of_le f75.lt (Nat.le_of_eq g26.symm)))
          have f76 := (f73.keep Kq45 (ninS ne74 nin0))
          have f77 := (Fld.ext E10 FU)
          have f78 := (f77.keep Kq12 nin0)
          have f79 := (f78.keep Kq14 nin0)
          have ne80 : kU ≠ nb10 := (Nat.ne_of_lt (Nat.lt_of_lt_of_le EU.lt (Nat.le_of_eq g10.symm)))
          have f81 := (f79.keep Kq24 (ninS ne80 nin0))
          have f82 := (Fld.ext E26 f81)
          have f83 := (f82.keep Kq30 nin0)
          have f84 := (f83.keep Kq32 nin0)
          have ne85 : kU ≠ nb26 := (Nat.ne_of_lt (Nat.lt_of_lt_of_le f59.lt (Nat.le_of_eq g26.symm)))
          have f86 := (f84.keep Kq45 (ninS ne85 nin0))
          obtain ⟨r87, hr87⟩ : ∃ r : Int32, r = if own_mk rl r0 r1 = own_mk ol o0 o1 then 1 else 0 := ⟨_, rfl⟩
          have f88 := (Ex14.keep Kq24)
          have f89 := (Exa.ext E26 f88)
          have f90 := (f89.keep Kq30)
          have f91 := (f90.keep Kq32)
          have f92 := (f91.keep Kq45)
          have ne93 : nb10 ≠ x14 := (Nat.ne_of_lt (Nat.lt_of_lt_of_le f18.lt gx14))
          have f94 := (Cq14.keep Kq24 (ninS (Ne.symm ne93) nin0))
          have f95 := (Fld.ext E26 f94)
          have f96 := (f95.keep Kq30 nin0)
          have f97 := (f96.keep Kq32 nin0)
          have ne98 : x14 ≠ nb26 := (Nat.ne_of_lt (Nat.lt_of_lt_of_le f88.lt (Nat.le_of_eq g26.symm)))
          have f99 := (f97.keep Kq45 (ninS ne98 nin0))
          have f100 := (Vq14.keep Kq24 (ninS (Ne.symm ne93) nin0))
          have f101 := (Fld.ext E26 f100)
          have f102 := (f101.keep Kq30 nin0)
          have f103 := (f102.keep Kq32 nin0)
          have f104 := (f103.keep Kq45 (ninS ne98 nin0))
          have ne105 : nb10 ≠ t14 := (Exa.neArv f17 Aq14 (hw _ (List.mem_of_getElem? (i := 6) rfl)))
          have f106 := (Aq14.keep Kq24 (ninS (Ne.symm ne105) nin0))
          have f107 := (f106.ext E26)
          have f108 := (f107.keep Kq30 nin0)
          have f109 := (f108.keep Kq32 nin0)
          have f111 := (Aq14.keep Kq24 (ninS (Ne.symm ne105) nin0))
          have ne110 : t14 ≠ nb26 := (Nat.ne_of_lt (Nat.lt_of_lt_of_le f111.lt (Nat.le_of_eq g26.symm)))
          have f112 := (f109.keep Kq45 (ninS ne110 nin0))
          have f113 := (Ex32.keep Kq45)
          have ne114 : nb26 ≠ x32 := (Nat.ne_of_lt (Nat.lt_of_lt_of_le f39.lt gx32))
          have f115 := (Cq32.keep Kq45 (ninS (Ne.symm ne114) nin0))
          have f116 := (Vq32.keep Kq45 (ninS (Ne.symm ne114) nin0))
          have ne117 : nb26 ≠ t32 := (Exa.neArv f38 Aq32 (hw _ (List.mem_of_getElem? (i := 6) rfl)))
          have f118 := (Aq32.keep Kq45 (ninS (Ne.symm ne117) nin0))
          obtain ⟨cq120, kq120, q120a, q120b, q120c⟩ := isOf hZ rfl f55
          refine own_callV X45 hx (y := (⟨"com/example/gentle_nudge/gentlenudge/server/ChannelOwner", "mayStopChannelOf", "(Lcom/example/gentle_nudge/gentlenudge/server/ChannelOwner;)Z"⟩ : MethodName)) (z := (⟨"com/example/gentle_nudge/gentlenudge/server/ChannelOwner", "mayStopChannelOf", "(Lcom/example/gentle_nudge/gentlenudge/server/ChannelOwner;)Z"⟩ : MethodName)) hown (mvT hZ (hw _ (List.mem_of_getElem? (i := 64) rfl))) (mvT hZ (hw _ (List.mem_of_getElem? (i := 65) rfl))) (notFace_of_selects (args := #[]) (mvT hZ (hw _ (List.mem_of_getElem? (i := 67) rfl)))) (mvT hZ (hw _ (List.mem_of_getElem? (i := 67) rfl))) (mvT hZ (hw _ (List.mem_of_getElem? (i := 66) rfl))) (by decide) (backOf (W := 0) (rmMU l Z a0 hw [] nb10 nb26 kU sm x14 t14 x32 t32 ks kb14 kb32 (own_mk rl r0 r1) (own_mk ol o0 o1) r87 G T45.heap n0 (Nat.le_trans Z0 K45.1) f55 Eq45 Fk45 f63 (Sta.ext f65.2 SS) f76 f86 f51 Fn45 f92 f99 f104 f112 hp14 (own_mk4 _ _ _) f113 f115 f116 f118 hp32 (own_mk4 _ _ _) (Sta.ext f65.2 SC) hCS hr87) hZ (hw _ (List.mem_of_getElem? (i := 68) rfl)) (hw _ (List.mem_of_getElem? (i := 7) rfl)) (by decide) (by decide)) q120a q120c (g := (mkF m 223 #[.val (.int rN), .val (.int oN), .val (.int fg), .val (.int cb), .val (.int rl), .val (.int r0), .val (.int r1), .val (.int ol), .val (.int o0), .val (.int o1), .val (.int md), .val (.ref kr), .val (.int (0 : Int32)), .val (.ref kU), .val (.int cc), .val (.ref nb10), .val (.ref nb26), .unset, .unset] [(.ref nb26), (.ref nb10)])) rfl (by rw [hml]; rfl) (argsL := [(.ref nb26)]) (rest := []) (lenOf pd_13 rfl) rfl (by show 2 * 0 + _ ≤ _; exact Nat.le_of_eq rfl) (hb hby at_223) rfl rfl (by decide) (by decide) ?_
          rintro v119 T119 L119 X119 ⟨rfl, Nq119, hh119⟩
          have N119 := Fr.app N45 Nq119
          show own_Go p e below _ T119 (mkF m 226 #[.val (.int rN), .val (.int oN), .val (.int fg), .val (.int cb), .val (.int rl), .val (.int r0), .val (.int r1), .val (.int ol), .val (.int o0), .val (.int o1), .val (.int md), .val (.ref kr), .val (.int (0 : Int32)), .val (.ref kU), .val (.int cc), .val (.ref nb10), .val (.ref nb26), .unset, .unset] [(.int r87)])
          refine own_st (fun t_ k_ => XS.istore X119.here hx rfl (hb hby at_226) rfl (l' := #[.val (.int rN), .val (.int oN), .val (.int fg), .val (.int cb), .val (.int rl), .val (.int r0), .val (.int r1), .val (.int ol), .val (.int o0), .val (.int o1), .val (.int md), .val (.ref kr), .val (.int (0 : Int32)), .val (.ref kU), .val (.int cc), .val (.ref nb10), .val (.ref nb26), .val (.int r87), .unset]) rfl k_) ?_
          show own_Go p e below _ T119 (mkF m 228 #[.val (.int rN), .val (.int oN), .val (.int fg), .val (.int cb), .val (.int rl), .val (.int r0), .val (.int r1), .val (.int ol), .val (.int o0), .val (.int o1), .val (.int md), .val (.ref kr), .val (.int (0 : Int32)), .val (.ref kU), .val (.int cc), .val (.ref nb10), .val (.ref nb26), .val (.int r87), .unset] [])
          refine own_st (fun t_ k_ => XS.iload X119.here hx rfl (hb hby at_228) rfl k_) ?_
          show own_Go p e below _ T119 (mkF m 230 #[.val (.int rN), .val (.int oN), .val (.int fg), .val (.int cb), .val (.int rl), .val (.int r0), .val (.int r1), .val (.int ol), .val (.int o0), .val (.int o1), .val (.int md), .val (.ref kr), .val (.int (0 : Int32)), .val (.ref kU), .val (.int cc), .val (.ref nb10), .val (.ref nb26), .val (.int r87), .unset] [(.int rl)])
          refine own_st (fun t_ k_ => XS.iload X119.here hx rfl (hb hby at_230) rfl k_) ?_
          show own_Go p e below _ T119 (mkF m 232 #[.val (.int rN), .val (.int oN), .val (.int fg), .val (.int cb), .val (.int rl), .val (.int r0), .val (.int r1), .val (.int ol), .val (.int o0), .val (.int o1), .val (.int md), .val (.ref kr), .val (.int (0 : Int32)), .val (.ref kU), .val (.int cc), .val (.ref nb10), .val (.ref nb26), .val (.int r87), .unset] [(.int ol), (.int rl)])
          refine own_join (α := Int32) (F := fun bs => bs = r87) (T' := T119) (g' := fun bs => (mkF m 266 #[.val (.int rN), .val (.int oN), .val (.int fg), .val (.int cb), .val (.int rl), .val (.int r0), .val (.int r1), .val (.int ol), .val (.int o0), .val (.int o1), .val (.int md), .val (.ref kr), .val (.int (0 : Int32)), .val (.ref kU), .val (.int cc), .val (.ref nb10), .val (.ref nb26), .val (.int r87), .unset] [(.int bs)])) (fun bs h_bs => ?_) (fun J_bs => ?_)
          · show own_Go p e below _ T119 (mkF m 266 #[.val (.int rN), .val (.int oN), .val (.int fg), .val (.int cb), .val (.int rl), .val (.int r0), .val (.int r1), .val (.int ol), .val (.int o0), .val (.int o1), .val (.int md), .val (.ref kr), .val (.int (0 : Int32)), .val (.ref kU), .val (.int cc), .val (.ref nb10), .val (.ref nb26), .val (.int r87), .unset] [(.int bs)])
            subst h_bs
            show own_Go p e below _ T119 (mkF m 266 #[.val (.int rN), .val (.int oN), .val (.int fg), .val (.int cb), .val (.int rl), .val (.int r0), .val (.int r1), .val (.int ol), .val (.int o0), .val (.int o1), .val (.int md), .val (.ref kr), .val (.int (0 : Int32)), .val (.ref kU), .val (.int cc), .val (.ref nb10), .val (.ref nb26), .val (.int bs), .unset] [(.int bs)])
            refine own_st (fun t_ k_ => XS.istore X119.here hx rfl (hb hby at_266) rfl (l' := #[.val (.int rN), .val (.int oN), .val (.int fg), .val (.int cb), .val (.int rl), .val (.int r0), .val (.int r1), .val (.int ol), .val (.int o0), .val (.int o1), .val (.int md), .val (.ref kr), .val (.int (0 : Int32)), .val (.ref kU), .val (.int cc), .val (.ref nb10), .val (.ref nb26), .val (.int bs), .val (.int bs)]) rfl k_) ?_
            show own_Go p e below _ T119 (mkF m 268 #[.val (.int rN), .val (.int oN), .val (.int fg), .val (.int cb), .val (.int rl), .val (.int r0), .val (.int r1), .val (.int ol), .val (.int o0), .val (.int o1), .val (.int md), .val (.ref kr), .val (.int (0 : Int32)), .val (.ref kU), .val (.int cc), .val (.ref nb10), .val (.ref nb26), .val (.int bs), .val (.int bs)] [])
            refine own_st (fun t_ k_ => XS.iload X119.here hx rfl (hb hby at_268) rfl k_) ?_
            show own_Go p e below _ T119 (mkF m 270 #[.val (.int rN), .val (.int oN), .val (.int fg), .val (.int cb), .val (.int rl), .val (.int r0), .val (.int r1), .val (.int ol), .val (.int o0), .val (.int o1), .val (.int md), .val (.ref kr), .val (.int (0 : Int32)), .val (.ref kU), .val (.int cc), .val (.ref nb10), .val (.ref nb26), .val (.int bs), .val (.int bs)] [(.int bs)])
            refine own_st (fun t_ k_ => XS.iload X119.here hx rfl (hb hby at_270) rfl k_) ?_
            show own_Go p e below _ T119 (mkF m 272 #[.val (.int rN), .val (.int oN), .val (.int fg), .val (.int cb), .val (.int rl), .val (.int r0), .val (.int r1), .val (.int ol), .val (.int o0), .val (.int o1), .val (.int md), .val (.ref kr), .val (.int (0 : Int32)), .val (.ref kU), .val (.int cc), .val (.ref nb10), .val (.ref nb26), .val (.int bs), .val (.int bs)] [(.int (0 : Int32)), (.int bs)])
            refine own_st (fun t_ k_ => XS.ifNo X119.here hx rfl (hb hby at_272) rfl (by decide) k_) ?_
            show own_Go p e below _ T119 (mkF m 275 #[.val (.int rN), .val (.int oN), .val (.int fg), .val (.int cb), .val (.int rl), .val (.int r0), .val (.int r1), .val (.int ol), .val (.int o0), .val (.int o1), .val (.int md), .val (.ref kr), .val (.int (0 : Int32)), .val (.ref kU), .val (.int cc), .val (.ref nb10), .val (.ref nb26), .val (.int bs), .val (.int bs)] [(.int bs)])
            refine own_st (fun t_ k_ => XS.iload X119.here hx rfl (hb hby at_275) rfl k_) ?_
            show own_Go p e below _ T119 (mkF m 277 #[.val (.int rN), .val (.int oN), .val (.int fg), .val (.int cb), .val (.int rl), .val (.int r0), .val (.int r1), .val (.int ol), .val (.int o0), .val (.int o1), .val (.int md), .val (.ref kr), .val (.int (0 : Int32)), .val (.ref kU), .val (.int cc), .val (.ref nb10), .val (.ref nb26), .val (.int bs), .val (.int bs)] [(.int bs), (.int bs)])
            by_cases hz : bs = (0 : Int32)
            · refine own_st (fun t_ k_ => XS.ifYes X119.here hx rfl (pc0 := 277) (pc' := 284) rfl (hb hby at_277) rfl ((if0 _ _).trans (teq hz).1) (by decide) (by decide) k_) ?_
              show own_Go p e below _ T119 (mkF m 284 #[.val (.int rN), .val (.int oN), .val (.int fg), .val (.int cb), .val (.int rl), .val (.int r0), .val (.int r1), .val (.int ol), .val (.int o0), .val (.int o1), .val (.int md), .val (.ref kr), .val (.int (0 : Int32)), .val (.ref kU), .val (.int cc), .val (.ref nb10), .val (.ref nb26), .val (.int bs), .val (.int bs)] [(.int bs)])
              refine own_st (fun t_ k_ => XS.iconst X119.here hx rfl (hb hby at_284) k_) ?_
              show own_Go p e below _ T119 (mkF m 285 #[.val (.int rN), .val (.int oN), .val (.int fg), .val (.int cb), .val (.int rl), .val (.int r0), .val (.int r1), .val (.int ol), .val (.int o0), .val (.int o1), .val (.int md), .val (.ref kr), .val (.int (0 : Int32)), .val (.ref kU), .val (.int cc), .val (.ref nb10), .val (.ref nb26), .val (.int bs), .val (.int bs)] [(.int (0 : Int32)), (.int bs)])
              refine own_st (fun t_ k_ => XS.icmpNo X119.here hx rfl (hb hby at_285) rfl (teq hz).2 k_) ?_
              show own_Go p e below _ T119 (mkF m 288 #[.val (.int rN), .val (.int oN), .val (.int fg), .val (.int cb), .val (.int rl), .val (.int r0), .val (.int r1), .val (.int ol), .val (.int o0), .val (.int o1), .val (.int md), .val (.ref kr), .val (.int (0 : Int32)), .val (.ref kU), .val (.int cc), .val (.ref nb10), .val (.ref nb26), .val (.int bs), .val (.int bs)] [])
              refine own_st (fun t_ k_ => XS.iconst X119.here hx rfl (hb hby at_288) k_) ?_
              show own_Go p e below _ T119 (mkF m 289 #[.val (.int rN), .val (.int oN), .val (.int fg), .val (.int cb), .val (.int rl), .val (.int r0), .val (.int r1), .val (.int ol), .val (.int o0), .val (.int o1), .val (.int md), .val (.ref kr), .val (.int (0 : Int32)), .val (.ref kU), .val (.int cc), .val (.ref nb10), .val (.ref nb26), .val (.int bs), .val (.int bs)] [(.int (1 : Int32))])
              refine own_st (fun t_ k_ => XS.goto X119.here hx rfl (pc0 := 289) (pc' := 293) rfl (hb hby at_289) (by decide) (by decide) k_) ?_
              show own_Go p e below _ T119 (mkF m 293 #[.val (.int rN), .val (.int oN), .val (.int fg), .val (.int cb), .val (.int rl), .val (.int r0), .val (.int r1), .val (.int ol), .val (.int o0), .val (.int o1), .val (.int md), .val (.ref kr), .val (.int (0 : Int32)), .val (.ref kU), .val (.int cc), .val (.ref nb10), .val (.ref nb26), .val (.int bs), .val (.int bs)] [(.int (1 : Int32))])
              refine own_retNS X119 hx hlk hZ hEL hh119 hh B45 (t := .boolean) Bd.returns (by simp) (hb hby at_293) ?_ (by decide) (by decide)
              show Q0 n0 _ T119.heap _
              rw [hh119]
              exact ⟨rfl, N119⟩
            · refine own_st (fun t_ k_ => XS.ifNo X119.here hx rfl (hb hby at_277) rfl ((if0 _ _).trans (feq hz).1) k_) ?_
              show own_Go p e below _ T119 (mkF m 280 #[.val (.int rN), .val (.int oN), .val (.int fg), .val (.int cb), .val (.int rl), .val (.int r0), .val (.int r1), .val (.int ol), .val (.int o0), .val (.int o1), .val (.int md), .val (.ref kr), .val (.int (0 : Int32)), .val (.ref kU), .val (.int cc), .val (.ref nb10), .val (.ref nb26), .val (.int bs), .val (.int bs)] [(.int bs)])
              refine own_st (fun t_ k_ => XS.iconst X119.here hx rfl (hb hby at_280) k_) ?_
              show own_Go p e below _ T119 (mkF m 281 #[.val (.int rN), .val (.int oN), .val (.int fg), .val (.int cb), .val (.int rl), .val (.int r0), .val (.int r1), .val (.int ol), .val (.int o0), .val (.int o1), .val (.int md), .val (.ref kr), .val (.int (0 : Int32)), .val (.ref kU), .val (.int cc), .val (.ref nb10), .val (.ref nb26), .val (.int bs), .val (.int bs)] [(.int (1 : Int32)), (.int bs)])
              refine own_st (fun t_ k_ => XS.goto X119.here hx rfl (pc0 := 281) (pc' := 285) rfl (hb hby at_281) (by decide) (by decide) k_) ?_
              show own_Go p e below _ T119 (mkF m 285 #[.val (.int rN), .val (.int oN), .val (.int fg), .val (.int cb), .val (.int rl), .val (.int r0), .val (.int r1), .val (.int ol), .val (.int o0), .val (.int o1), .val (.int md), .val (.ref kr), .val (.int (0 : Int32)), .val (.ref kU), .val (.int cc), .val (.ref nb10), .val (.ref nb26), .val (.int bs), .val (.int bs)] [(.int (1 : Int32)), (.int bs)])
              have hgot : bs = (1 : Int32) := by rw [hr87] at hz ⊢; split at hz <;> simp_all
              refine own_st (fun t_ k_ => XS.icmpNo X119.here hx rfl (hb hby at_285) rfl (teq hgot).2 k_) ?_
              show own_Go p e below _ T119 (mkF m 288 #[.val (.int rN), .val (.int oN), .val (.int fg), .val (.int cb), .val (.int rl), .val (.int r0), .val (.int r1), .val (.int ol), .val (.int o0), .val (.int o1), .val (.int md), .val (.ref kr), .val (.int (0 : Int32)), .val (.ref kU), .val (.int cc), .val (.ref nb10), .val (.ref nb26), .val (.int bs), .val (.int bs)] [])
              refine own_st (fun t_ k_ => XS.iconst X119.here hx rfl (hb hby at_288) k_) ?_
              show own_Go p e below _ T119 (mkF m 289 #[.val (.int rN), .val (.int oN), .val (.int fg), .val (.int cb), .val (.int rl), .val (.int r0), .val (.int r1), .val (.int ol), .val (.int o0), .val (.int o1), .val (.int md), .val (.ref kr), .val (.int (0 : Int32)), .val (.ref kU), .val (.int cc), .val (.ref nb10), .val (.ref nb26), .val (.int bs), .val (.int bs)] [(.int (1 : Int32))])
              refine own_st (fun t_ k_ => XS.goto X119.here hx rfl (pc0 := 289) (pc' := 293) rfl (hb hby at_289) (by decide) (by decide) k_) ?_
              show own_Go p e below _ T119 (mkF m 293 #[.val (.int rN), .val (.int oN), .val (.int fg), .val (.int cb), .val (.int rl), .val (.int r0), .val (.int r1), .val (.int ol), .val (.int o0), .val (.int o1), .val (.int md), .val (.ref kr), .val (.int (0 : Int32)), .val (.ref kU), .val (.int cc), .val (.ref nb10), .val (.ref nb26), .val (.int bs), .val (.int bs)] [(.int (1 : Int32))])
              refine own_retNS X119 hx hlk hZ hEL hh119 hh B45 (t := .boolean) Bd.returns (by simp) (hb hby at_293) ?_ (by decide) (by decide)
              show Q0 n0 _ T119.heap _
              rw [hh119]
              exact ⟨rfl, N119⟩
          · show own_Go p e below _ T119 (mkF m 232 #[.val (.int rN), .val (.int oN), .val (.int fg), .val (.int cb), .val (.int rl), .val (.int r0), .val (.int r1), .val (.int ol), .val (.int o0), .val (.int o1), .val (.int md), .val (.ref kr), .val (.int (0 : Int32)), .val (.ref kU), .val (.int cc), .val (.ref nb10), .val (.ref nb26), .val (.int r87), .unset] [(.int ol), (.int rl)])
            by_cases hc232_121 : rl = ol
            · refine own_st (fun t_ k_ => XS.icmpNo X119.here hx rfl (hb hby at_232) rfl (teq hc232_121).2 k_) ?_
              show own_Go p e below _ T119 (mkF m 235 #[.val (.int rN), .val (.int oN), .val (.int fg), .val (.int cb), .val (.int rl), .val (.int r0), .val (.int r1), .val (.int ol), .val (.int o0), .val (.int o1), .val (.int md), .val (.ref kr), .val (.int (0 : Int32)), .val (.ref kU), .val (.int cc), .val (.ref nb10), .val (.ref nb26), .val (.int r87), .unset] [])
              refine own_st (fun t_ k_ => XS.iload X119.here hx rfl (hb hby at_235) rfl k_) ?_
              show own_Go p e below _ T119 (mkF m 237 #[.val (.int rN), .val (.int oN), .val (.int fg), .val (.int cb), .val (.int rl), .val (.int r0), .val (.int r1), .val (.int ol), .val (.int o0), .val (.int o1), .val (.int md), .val (.ref kr), .val (.int (0 : Int32)), .val (.ref kU), .val (.int cc), .val (.ref nb10), .val (.ref nb26), .val (.int r87), .unset] [(.int rl)])
              refine own_st (fun t_ k_ => XS.iconst X119.here hx rfl (hb hby at_237) k_) ?_
              show own_Go p e below _ T119 (mkF m 238 #[.val (.int rN), .val (.int oN), .val (.int fg), .val (.int cb), .val (.int rl), .val (.int r0), .val (.int r1), .val (.int ol), .val (.int o0), .val (.int o1), .val (.int md), .val (.ref kr), .val (.int (0 : Int32)), .val (.ref kU), .val (.int cc), .val (.ref nb10), .val (.ref nb26), .val (.int r87), .unset] [(.int (1 : Int32)), (.int rl)])
              by_cases hc238_122 : rl < (1 : Int32)
              · refine own_st (fun t_ k_ => XS.icmpYes X119.here hx rfl (pc0 := 238) (pc' := 248) rfl (hb hby at_238) rfl (tlt hc238_122).1 (by decide) (by decide) k_) ?_
                show own_Go p e below _ T119 (mkF m 248 #[.val (.int rN), .val (.int oN), .val (.int fg), .val (.int cb), .val (.int rl), .val (.int r0), .val (.int r1), .val (.int ol), .val (.int o0), .val (.int o1), .val (.int md), .val (.ref kr), .val (.int (0 : Int32)), .val (.ref kU), .val (.int cc), .val (.ref nb10), .val (.ref nb26), .val (.int r87), .unset] [])
                refine own_st (fun t_ k_ => XS.iload X119.here hx rfl (hb hby at_248) rfl k_) ?_
                show own_Go p e below _ T119 (mkF m 250 #[.val (.int rN), .val (.int oN), .val (.int fg), .val (.int cb), .val (.int rl), .val (.int r0), .val (.int r1), .val (.int ol), .val (.int o0), .val (.int o1), .val (.int md), .val (.ref kr), .val (.int (0 : Int32)), .val (.ref kU), .val (.int cc), .val (.ref nb10), .val (.ref nb26), .val (.int r87), .unset] [(.int rl)])
                refine own_st (fun t_ k_ => XS.iconst X119.here hx rfl (hb hby at_250) k_) ?_
                show own_Go p e below _ T119 (mkF m 251 #[.val (.int rN), .val (.int oN), .val (.int fg), .val (.int cb), .val (.int rl), .val (.int r0), .val (.int r1), .val (.int ol), .val (.int o0), .val (.int o1), .val (.int md), .val (.ref kr), .val (.int (0 : Int32)), .val (.ref kU), .val (.int cc), .val (.ref nb10), .val (.ref nb26), .val (.int r87), .unset] [(.int (2 : Int32)), (.int rl)])
                by_cases hc251_123 : rl < (2 : Int32)
                · refine own_st (fun t_ k_ => XS.icmpYes X119.here hx rfl (pc0 := 251) (pc' := 261) rfl (hb hby at_251) rfl (tlt hc251_123).1 (by decide) (by decide) k_) ?_
                  show own_Go p e below _ T119 (mkF m 261 #[.val (.int rN), .val (.int oN), .val (.int fg), .val (.int cb), .val (.int rl), .val (.int r0), .val (.int r1), .val (.int ol), .val (.int o0), .val (.int o1), .val (.int md), .val (.ref kr), .val (.int (0 : Int32)), .val (.ref kU), .val (.int cc), .val (.ref nb10), .val (.ref nb26), .val (.int r87), .unset] [])
                  refine own_st (fun t_ k_ => XS.iconst X119.here hx rfl (hb hby at_261) k_) ?_
                  show own_Go p e below _ T119 (mkF m 262 #[.val (.int rN), .val (.int oN), .val (.int fg), .val (.int cb), .val (.int rl), .val (.int r0), .val (.int r1), .val (.int ol), .val (.int o0), .val (.int o1), .val (.int md), .val (.ref kr), .val (.int (0 : Int32)), .val (.ref kU), .val (.int cc), .val (.ref nb10), .val (.ref nb26), .val (.int r87), .unset] [(.int (1 : Int32))])
                  refine own_st (fun t_ k_ => XS.goto X119.here hx rfl (pc0 := 262) (pc' := 266) rfl (hb hby at_262) (by decide) (by decide) k_) ?_
                  show own_Go p e below _ T119 (mkF m 266 #[.val (.int rN), .val (.int oN), .val (.int fg), .val (.int cb), .val (.int rl), .val (.int r0), .val (.int r1), .val (.int ol), .val (.int o0), .val (.int o1), .val (.int md), .val (.ref kr), .val (.int (0 : Int32)), .val (.ref kU), .val (.int cc), .val (.ref nb10), .val (.ref nb26), .val (.int r87), .unset] [(.int (1 : Int32))])
                  exact J_bs (1 : Int32) (by rw [hr87]; rcases d_rl with rfl | rfl | rfl <;> rcases d_ol with rfl | rfl | rfl <;> simp_all [own_mk])
                · refine own_st (fun t_ k_ => XS.icmpNo X119.here hx rfl (hb hby at_251) rfl (flt hc251_123).1 k_) ?_
                  show own_Go p e below _ T119 (mkF m 254 #[.val (.int rN), .val (.int oN), .val (.int fg), .val (.int cb), .val (.int rl), .val (.int r0), .val (.int r1), .val (.int ol), .val (.int o0), .val (.int o1), .val (.int md), .val (.ref kr), .val (.int (0 : Int32)), .val (.ref kU), .val (.int cc), .val (.ref nb10), .val (.ref nb26), .val (.int r87), .unset] [])
                  refine own_st (fun t_ k_ => XS.iload X119.here hx rfl (hb hby at_254) rfl k_) ?_
                  show own_Go p e below _ T119 (mkF m 256 #[.val (.int rN), .val (.int oN), .val (.int fg), .val (.int cb), .val (.int rl), .val (.int r0), .val (.int r1), .val (.int ol), .val (.int o0), .val (.int o1), .val (.int md), .val (.ref kr), .val (.int (0 : Int32)), .val (.ref kU), .val (.int cc), .val (.ref nb10), .val (.ref nb26), .val (.int r87), .unset] [(.int r1)])
                  refine own_st (fun t_ k_ => XS.iload X119.here hx rfl (hb hby at_256) rfl k_) ?_
                  show own_Go p e below _ T119 (mkF m 258 #[.val (.int rN), .val (.int oN), .val (.int fg), .val (.int cb), .val (.int rl), .val (.int r0), .val (.int r1), .val (.int ol), .val (.int o0), .val (.int o1), .val (.int md), .val (.ref kr), .val (.int (0 : Int32)), .val (.ref kU), .val (.int cc), .val (.ref nb10), .val (.ref nb26), .val (.int r87), .unset] [(.int o1), (.int r1)])
                  by_cases hc258_124 : r1 = o1
                  · refine own_st (fun t_ k_ => XS.icmpNo X119.here hx rfl (hb hby at_258) rfl (teq hc258_124).2 k_) ?_
                    show own_Go p e below _ T119 (mkF m 261 #[.val (.int rN), .val (.int oN), .val (.int fg), .val (.int cb), .val (.int rl), .val (.int r0), .val (.int r1), .val (.int ol), .val (.int o0), .val (.int o1), .val (.int md), .val (.ref kr), .val (.int (0 : Int32)), .val (.ref kU), .val (.int cc), .val (.ref nb10), .val (.ref nb26), .val (.int r87), .unset] [])
                    refine own_st (fun t_ k_ => XS.iconst X119.here hx rfl (hb hby at_261) k_) ?_
                    show own_Go p e below _ T119 (mkF m 262 #[.val (.int rN), .val (.int oN), .val (.int fg), .val (.int cb), .val (.int rl), .val (.int r0), .val (.int r1), .val (.int ol), .val (.int o0), .val (.int o1), .val (.int md), .val (.ref kr), .val (.int (0 : Int32)), .val (.ref kU), .val (.int cc), .val (.ref nb10), .val (.ref nb26), .val (.int r87), .unset] [(.int (1 : Int32))])
                    refine own_st (fun t_ k_ => XS.goto X119.here hx rfl (pc0 := 262) (pc' := 266) rfl (hb hby at_262) (by decide) (by decide) k_) ?_
                    show own_Go p e below _ T119 (mkF m 266 #[.val (.int rN), .val (.int oN), .val (.int fg), .val (.int cb), .val (.int rl), .val (.int r0), .val (.int r1), .val (.int ol), .val (.int o0), .val (.int o1), .val (.int md), .val (.ref kr), .val (.int (0 : Int32)), .val (.ref kU), .val (.int cc), .val (.ref nb10), .val (.ref nb26), .val (.int r87), .unset] [(.int (1 : Int32))])
                    exact J_bs (1 : Int32) (by rw [hr87]; rcases d_rl with rfl | rfl | rfl <;> rcases d_ol with rfl | rfl | rfl <;> simp_all [own_mk])
                  · refine own_st (fun t_ k_ => XS.icmpYes X119.here hx rfl (pc0 := 258) (pc' := 265) rfl (hb hby at_258) rfl (feq hc258_124).2 (by decide) (by decide) k_) ?_
                    show own_Go p e below _ T119 (mkF m 265 #[.val (.int rN), .val (.int oN), .val (.int fg), .val (.int cb), .val (.int rl), .val (.int r0), .val (.int r1), .val (.int ol), .val (.int o0), .val (.int o1), .val (.int md), .val (.ref kr), .val (.int (0 : Int32)), .val (.ref kU), .val (.int cc), .val (.ref nb10), .val (.ref nb26), .val (.int r87), .unset] [])
                    refine own_st (fun t_ k_ => XS.iconst X119.here hx rfl (hb hby at_265) k_) ?_
                    show own_Go p e below _ T119 (mkF m 266 #[.val (.int rN), .val (.int oN), .val (.int fg), .val (.int cb), .val (.int rl), .val (.int r0), .val (.int r1), .val (.int ol), .val (.int o0), .val (.int o1), .val (.int md), .val (.ref kr), .val (.int (0 : Int32)), .val (.ref kU), .val (.int cc), .val (.ref nb10), .val (.ref nb26), .val (.int r87), .unset] [(.int (0 : Int32))])
                    exact J_bs (0 : Int32) (by rw [hr87]; rcases d_rl with rfl | rfl | rfl <;> rcases d_ol with rfl | rfl | rfl <;> simp_all [own_mk])
              · refine own_st (fun t_ k_ => XS.icmpNo X119.here hx rfl (hb hby at_238) rfl (flt hc238_122).1 k_) ?_
                show own_Go p e below _ T119 (mkF m 241 #[.val (.int rN), .val (.int oN), .val (.int fg), .val (.int cb), .val (.int rl), .val (.int r0), .val (.int r1), .val (.int ol), .val (.int o0), .val (.int o1), .val (.int md), .val (.ref kr), .val (.int (0 : Int32)), .val (.ref kU), .val (.int cc), .val (.ref nb10), .val (.ref nb26), .val (.int r87), .unset] [])
                refine own_st (fun t_ k_ => XS.iload X119.here hx rfl (hb hby at_241) rfl k_) ?_
                show own_Go p e below _ T119 (mkF m 243 #[.val (.int rN), .val (.int oN), .val (.int fg), .val (.int cb), .val (.int rl), .val (.int r0), .val (.int r1), .val (.int ol), .val (.int o0), .val (.int o1), .val (.int md), .val (.ref kr), .val (.int (0 : Int32)), .val (.ref kU), .val (.int cc), .val (.ref nb10), .val (.ref nb26), .val (.int r87), .unset] [(.int r0)])
                refine own_st (fun t_ k_ => XS.iload X119.here hx rfl (hb hby at_243) rfl k_) ?_
                show own_Go p e below _ T119 (mkF m 245 #[.val (.int rN), .val (.int oN), .val (.int fg), .val (.int cb), .val (.int rl), .val (.int r0), .val (.int r1), .val (.int ol), .val (.int o0), .val (.int o1), .val (.int md), .val (.ref kr), .val (.int (0 : Int32)), .val (.ref kU), .val (.int cc), .val (.ref nb10), .val (.ref nb26), .val (.int r87), .unset] [(.int o0), (.int r0)])
                by_cases hc245_125 : r0 = o0
                · refine own_st (fun t_ k_ => XS.icmpNo X119.here hx rfl (hb hby at_245) rfl (teq hc245_125).2 k_) ?_
                  show own_Go p e below _ T119 (mkF m 248 #[.val (.int rN), .val (.int oN), .val (.int fg), .val (.int cb), .val (.int rl), .val (.int r0), .val (.int r1), .val (.int ol), .val (.int o0), .val (.int o1), .val (.int md), .val (.ref kr), .val (.int (0 : Int32)), .val (.ref kU), .val (.int cc), .val (.ref nb10), .val (.ref nb26), .val (.int r87), .unset] [])
                  refine own_st (fun t_ k_ => XS.iload X119.here hx rfl (hb hby at_248) rfl k_) ?_
                  show own_Go p e below _ T119 (mkF m 250 #[.val (.int rN), .val (.int oN), .val (.int fg), .val (.int cb), .val (.int rl), .val (.int r0), .val (.int r1), .val (.int ol), .val (.int o0), .val (.int o1), .val (.int md), .val (.ref kr), .val (.int (0 : Int32)), .val (.ref kU), .val (.int cc), .val (.ref nb10), .val (.ref nb26), .val (.int r87), .unset] [(.int rl)])
                  refine own_st (fun t_ k_ => XS.iconst X119.here hx rfl (hb hby at_250) k_) ?_
                  show own_Go p e below _ T119 (mkF m 251 #[.val (.int rN), .val (.int oN), .val (.int fg), .val (.int cb), .val (.int rl), .val (.int r0), .val (.int r1), .val (.int ol), .val (.int o0), .val (.int o1), .val (.int md), .val (.ref kr), .val (.int (0 : Int32)), .val (.ref kU), .val (.int cc), .val (.ref nb10), .val (.ref nb26), .val (.int r87), .unset] [(.int (2 : Int32)), (.int rl)])
                  by_cases hc251_126 : rl < (2 : Int32)
                  · refine own_st (fun t_ k_ => XS.icmpYes X119.here hx rfl (pc0 := 251) (pc' := 261) rfl (hb hby at_251) rfl (tlt hc251_126).1 (by decide) (by decide) k_) ?_
                    show own_Go p e below _ T119 (mkF m 261 #[.val (.int rN), .val (.int oN), .val (.int fg), .val (.int cb), .val (.int rl), .val (.int r0), .val (.int r1), .val (.int ol), .val (.int o0), .val (.int o1), .val (.int md), .val (.ref kr), .val (.int (0 : Int32)), .val (.ref kU), .val (.int cc), .val (.ref nb10), .val (.ref nb26), .val (.int r87), .unset] [])
                    refine own_st (fun t_ k_ => XS.iconst X119.here hx rfl (hb hby at_261) k_) ?_
                    show own_Go p e below _ T119 (mkF m 262 #[.val (.int rN), .val (.int oN), .val (.int fg), .val (.int cb), .val (.int rl), .val (.int r0), .val (.int r1), .val (.int ol), .val (.int o0), .val (.int o1), .val (.int md), .val (.ref kr), .val (.int (0 : Int32)), .val (.ref kU), .val (.int cc), .val (.ref nb10), .val (.ref nb26), .val (.int r87), .unset] [(.int (1 : Int32))])
                    refine own_st (fun t_ k_ => XS.goto X119.here hx rfl (pc0 := 262) (pc' := 266) rfl (hb hby at_262) (by decide) (by decide) k_) ?_
                    show own_Go p e below _ T119 (mkF m 266 #[.val (.int rN), .val (.int oN), .val (.int fg), .val (.int cb), .val (.int rl), .val (.int r0), .val (.int r1), .val (.int ol), .val (.int o0), .val (.int o1), .val (.int md), .val (.ref kr), .val (.int (0 : Int32)), .val (.ref kU), .val (.int cc), .val (.ref nb10), .val (.ref nb26), .val (.int r87), .unset] [(.int (1 : Int32))])
                    exact J_bs (1 : Int32) (by rw [hr87]; rcases d_rl with rfl | rfl | rfl <;> rcases d_ol with rfl | rfl | rfl <;> simp_all [own_mk])
                  · refine own_st (fun t_ k_ => XS.icmpNo X119.here hx rfl (hb hby at_251) rfl (flt hc251_126).1 k_) ?_
                    show own_Go p e below _ T119 (mkF m 254 #[.val (.int rN), .val (.int oN), .val (.int fg), .val (.int cb), .val (.int rl), .val (.int r0), .val (.int r1), .val (.int ol), .val (.int o0), .val (.int o1), .val (.int md), .val (.ref kr), .val (.int (0 : Int32)), .val (.ref kU), .val (.int cc), .val (.ref nb10), .val (.ref nb26), .val (.int r87), .unset] [])
                    refine own_st (fun t_ k_ => XS.iload X119.here hx rfl (hb hby at_254) rfl k_) ?_
                    show own_Go p e below _ T119 (mkF m 256 #[.val (.int rN), .val (.int oN), .val (.int fg), .val (.int cb), .val (.int rl), .val (.int r0), .val (.int r1), .val (.int ol), .val (.int o0), .val (.int o1), .val (.int md), .val (.ref kr), .val (.int (0 : Int32)), .val (.ref kU), .val (.int cc), .val (.ref nb10), .val (.ref nb26), .val (.int r87), .unset] [(.int r1)])
                    refine own_st (fun t_ k_ => XS.iload X119.here hx rfl (hb hby at_256) rfl k_) ?_
                    show own_Go p e below _ T119 (mkF m 258 #[.val (.int rN), .val (.int oN), .val (.int fg), .val (.int cb), .val (.int rl), .val (.int r0), .val (.int r1), .val (.int ol), .val (.int o0), .val (.int o1), .val (.int md), .val (.ref kr), .val (.int (0 : Int32)), .val (.ref kU), .val (.int cc), .val (.ref nb10), .val (.ref nb26), .val (.int r87), .unset] [(.int o1), (.int r1)])
                    by_cases hc258_127 : r1 = o1
                    · refine own_st (fun t_ k_ => XS.icmpNo X119.here hx rfl (hb hby at_258) rfl (teq hc258_127).2 k_) ?_
                      show own_Go p e below _ T119 (mkF m 261 #[.val (.int rN), .val (.int oN), .val (.int fg), .val (.int cb), .val (.int rl), .val (.int r0), .val (.int r1), .val (.int ol), .val (.int o0), .val (.int o1), .val (.int md), .val (.ref kr), .val (.int (0 : Int32)), .val (.ref kU), .val (.int cc), .val (.ref nb10), .val (.ref nb26), .val (.int r87), .unset] [])
                      refine own_st (fun t_ k_ => XS.iconst X119.here hx rfl (hb hby at_261) k_) ?_
                      show own_Go p e below _ T119 (mkF m 262 #[.val (.int rN), .val (.int oN), .val (.int fg), .val (.int cb), .val (.int rl), .val (.int r0), .val (.int r1), .val (.int ol), .val (.int o0), .val (.int o1), .val (.int md), .val (.ref kr), .val (.int (0 : Int32)), .val (.ref kU), .val (.int cc), .val (.ref nb10), .val (.ref nb26), .val (.int r87), .unset] [(.int (1 : Int32))])
                      refine own_st (fun t_ k_ => XS.goto X119.here hx rfl (pc0 := 262) (pc' := 266) rfl (hb hby at_262) (by decide) (by decide) k_) ?_
                      show own_Go p e below _ T119 (mkF m 266 #[.val (.int rN), .val (.int oN), .val (.int fg), .val (.int cb), .val (.int rl), .val (.int r0), .val (.int r1), .val (.int ol), .val (.int o0), .val (.int o1), .val (.int md), .val (.ref kr), .val (.int (0 : Int32)), .val (.ref kU), .val (.int cc), .val (.ref nb10), .val (.ref nb26), .val (.int r87), .unset] [(.int (1 : Int32))])
                      exact J_bs (1 : Int32) (by rw [hr87]; rcases d_rl with rfl | rfl | rfl <;> rcases d_ol with rfl | rfl | rfl <;> simp_all [own_mk])
                    · refine own_st (fun t_ k_ => XS.icmpYes X119.here hx rfl (pc0 := 258) (pc' := 265) rfl (hb hby at_258) rfl (feq hc258_127).2 (by decide) (by decide) k_) ?_
                      show own_Go p e below _ T119 (mkF m 265 #[.val (.int rN), .val (.int oN), .val (.int fg), .val (.int cb), .val (.int rl), .val (.int r0), .val (.int r1), .val (.int ol), .val (.int o0), .val (.int o1), .val (.int md), .val (.ref kr), .val (.int (0 : Int32)), .val (.ref kU), .val (.int cc), .val (.ref nb10), .val (.ref nb26), .val (.int r87), .unset] [])
                      refine own_st (fun t_ k_ => XS.iconst X119.here hx rfl (hb hby at_265) k_) ?_
                      show own_Go p e below _ T119 (mkF m 266 #[.val (.int rN), .val (.int oN), .val (.int fg), .val (.int cb), .val (.int rl), .val (.int r0), .val (.int r1), .val (.int ol), .val (.int o0), .val (.int o1), .val (.int md), .val (.ref kr), .val (.int (0 : Int32)), .val (.ref kU), .val (.int cc), .val (.ref nb10), .val (.ref nb26), .val (.int r87), .unset] [(.int (0 : Int32))])
                      exact J_bs (0 : Int32) (by rw [hr87]; rcases d_rl with rfl | rfl | rfl <;> rcases d_ol with rfl | rfl | rfl <;> simp_all [own_mk])
                · refine own_st (fun t_ k_ => XS.icmpYes X119.here hx rfl (pc0 := 245) (pc' := 265) rfl (hb hby at_245) rfl (feq hc245_125).2 (by decide) (by decide) k_) ?_
                  show own_Go p e below _ T119 (mkF m 265 #[.val (.int rN), .val (.int oN), .val (.int fg), .val (.int cb), .val (.int rl), .val (.int r0), .val (.int r1), .val (.int ol), .val (.int o0), .val (.int o1), .val (.int md), .val (.ref kr), .val (.int (0 : Int32)), .val (.ref kU), .val (.int cc), .val (.ref nb10), .val (.ref nb26), .val (.int r87), .unset] [])
                  refine own_st (fun t_ k_ => XS.iconst X119.here hx rfl (hb hby at_265) k_) ?_
                  show own_Go p e below _ T119 (mkF m 266 #[.val (.int rN), .val (.int oN), .val (.int fg), .val (.int cb), .val (.int rl), .val (.int r0), .val (.int r1), .val (.int ol), .val (.int o0), .val (.int o1), .val (.int md), .val (.ref kr), .val (.int (0 : Int32)), .val (.ref kU), .val (.int cc), .val (.ref nb10), .val (.ref nb26), .val (.int r87), .unset] [(.int (0 : Int32))])
                  exact J_bs (0 : Int32) (by rw [hr87]; rcases d_rl with rfl | rfl | rfl <;> rcases d_ol with rfl | rfl | rfl <;> simp_all [own_mk])
            · refine own_st (fun t_ k_ => XS.icmpYes X119.here hx rfl (pc0 := 232) (pc' := 265) rfl (hb hby at_232) rfl (feq hc232_121).2 (by decide) (by decide) k_) ?_
              show own_Go p e below _ T119 (mkF m 265 #[.val (.int rN), .val (.int oN), .val (.int fg), .val (.int cb), .val (.int rl), .val (.int r0), .val (.int r1), .val (.int ol), .val (.int o0), .val (.int o1), .val (.int md), .val (.ref kr), .val (.int (0 : Int32)), .val (.ref kU), .val (.int cc), .val (.ref nb10), .val (.ref nb26), .val (.int r87), .unset] [])
              refine own_st (fun t_ k_ => XS.iconst X119.here hx rfl (hb hby at_265) k_) ?_
              show own_Go p e below _ T119 (mkF m 266 #[.val (.int rN), .val (.int oN), .val (.int fg), .val (.int cb), .val (.int rl), .val (.int r0), .val (.int r1), .val (.int ol), .val (.int o0), .val (.int o1), .val (.int md), .val (.ref kr), .val (.int (0 : Int32)), .val (.ref kU), .val (.int cc), .val (.ref nb10), .val (.ref nb26), .val (.int r87), .unset] [(.int (0 : Int32))])
              exact J_bs (0 : Int32) (by rw [hr87]; rcases d_rl with rfl | rfl | rfl <;> rcases d_ol with rfl | rfl | rfl <;> simp_all [own_mk])
        · show own_Go p e below _ T4 (mkF m 147 #[.val (.int rN), .val (.int oN), .val (.int fg), .val (.int cb), .val (.int rl), .val (.int r0), .val (.int r1), .val (.int ol), .val (.int o0), .val (.int o1), .val (.int md), .val (.ref kr), .val (.int (1 : Int32)), .unset, .unset, .unset, .unset, .unset, .unset] [(.int (1 : Int32))])
          refine own_st (fun t_ k_ => XS.ifNo X4.here hx rfl (hb hby at_147) rfl (by decide) k_) ?_
          show own_Go p e below _ T4 (mkF m 150 #[.val (.int rN), .val (.int oN), .val (.int fg), .val (.int cb), .val (.int rl), .val (.int r0), .val (.int r1), .val (.int ol), .val (.int o0), .val (.int o1), .val (.int md), .val (.ref kr), .val (.int (1 : Int32)), .unset, .unset, .unset, .unset, .unset, .unset] [])
          obtain ⟨T128, X128, e128, st128⟩ := getS2 X4 hx hZ hown (host := "") (Or.inl (hw _ (List.mem_of_getElem? (i := 3) rfl))) Via.refl e4 (Sta.ext O0.2 SE) (g := (mkF m 150 #[.val (.int rN), .val (.int oN), .val (.int fg), .val (.int cb), .val (.int rl), .val (.int r0), .val (.int r1), .val (.int ol), .val (.int o0), .val (.int o1), .val (.int md), .val (.ref kr), .val (.int (1 : Int32)), .unset, .unset, .unset, .unset, .unset, .unset] [])) rfl (hb hby at_150)
          refine own_st st128 ?_
          show own_Go p e below _ T128 (mkF m 153 #[.val (.int rN), .val (.int oN), .val (.int fg), .val (.int cb), .val (.int rl), .val (.int r0), .val (.int r1), .val (.int ol), .val (.int o0), .val (.int o1), .val (.int md), .val (.ref kr), .val (.int (1 : Int32)), .unset, .unset, .unset, .unset, .unset, .unset] [(.ref kS)])
          refine own_st (fun t_ k_ => XS.goto X128.here hx rfl (pc0 := 153) (pc' := 159) rfl (hb hby at_153) (by decide) (by decide) k_) ?_
          show own_Go p e below _ T128 (mkF m 159 #[.val (.int rN), .val (.int oN), .val (.int fg), .val (.int cb), .val (.int rl), .val (.int r0), .val (.int r1), .val (.int ol), .val (.int o0), .val (.int o1), .val (.int md), .val (.ref kr), .val (.int (1 : Int32)), .unset, .unset, .unset, .unset, .unset, .unset] [(.ref kS)])
          refine own_st (fun t_ k_ => XS.astore X128.here hx rfl (hb hby at_159) rfl rfl (l' := #[.val (.int rN), .val (.int oN), .val (.int fg), .val (.int cb), .val (.int rl), .val (.int r0), .val (.int r1), .val (.int ol), .val (.int o0), .val (.int o1), .val (.int md), .val (.ref kr), .val (.int (1 : Int32)), .val (.ref kS), .unset, .unset, .unset, .unset, .unset]) rfl k_) ?_
          show own_Go p e below _ T128 (mkF m 161 #[.val (.int rN), .val (.int oN), .val (.int fg), .val (.int cb), .val (.int rl), .val (.int r0), .val (.int r1), .val (.int ol), .val (.int o0), .val (.int o1), .val (.int md), .val (.ref kr), .val (.int (1 : Int32)), .val (.ref kS), .unset, .unset, .unset, .unset, .unset] [])
          refine own_st (fun t_ k_ => XS.iloadN X128.here hx rfl (hb hby at_161) rfl k_) ?_
          show own_Go p e below _ T128 (mkF m 162 #[.val (.int rN), .val (.int oN), .val (.int fg), .val (.int cb), .val (.int rl), .val (.int r0), .val (.int r1), .val (.int ol), .val (.int o0), .val (.int o1), .val (.int md), .val (.ref kr), .val (.int (1 : Int32)), .val (.ref kS), .unset, .unset, .unset, .unset, .unset] [(.int cb)])
          refine own_st (fun t_ k_ => XS.sipush X128.here hx rfl (hb hby at_162) k_) ?_
          show own_Go p e below _ T128 (mkF m 165 #[.val (.int rN), .val (.int oN), .val (.int fg), .val (.int cb), .val (.int rl), .val (.int r0), .val (.int r1), .val (.int ol), .val (.int o0), .val (.int o1), .val (.int md), .val (.ref kr), .val (.int (1 : Int32)), .val (.ref kS), .unset, .unset, .unset, .unset, .unset] [(.int (255 : Int32)), (.int cb)])
          refine own_st (fun t_ k_ => XS.iand X128.here hx rfl (hb hby at_165) rfl k_) ?_
          show own_Go p e below _ T128 (mkF m 166 #[.val (.int rN), .val (.int oN), .val (.int fg), .val (.int cb), .val (.int rl), .val (.int r0), .val (.int r1), .val (.int ol), .val (.int o0), .val (.int o1), .val (.int md), .val (.ref kr), .val (.int (1 : Int32)), .val (.ref kS), .unset, .unset, .unset, .unset, .unset] [(.int (cb &&& (255 : Int32)))])
          refine own_st (fun t_ k_ => XS.i2c X128.here hx rfl (hb hby at_166) rfl k_) ?_
          show own_Go p e below _ T128 (mkF m 167 #[.val (.int rN), .val (.int oN), .val (.int fg), .val (.int cb), .val (.int rl), .val (.int r0), .val (.int r1), .val (.int ol), .val (.int o0), .val (.int o1), .val (.int md), .val (.ref kr), .val (.int (1 : Int32)), .val (.ref kS), .unset, .unset, .unset, .unset, .unset] [(.int ((cb &&& (255 : Int32)).toUInt32.toUInt16.toUInt32.toInt32))])
          have d_cc : own_L ((cb &&& (255 : Int32)).toUInt32.toUInt16.toUInt32.toInt32) := own_i2cL _
          generalize h_cc : ((cb &&& (255 : Int32)).toUInt32.toUInt16.toUInt32.toInt32) = cc at d_cc ⊢
          show own_Go p e below _ T128 (mkF m 167 #[.val (.int rN), .val (.int oN), .val (.int fg), .val (.int cb), .val (.int rl), .val (.int r0), .val (.int r1), .val (.int ol), .val (.int o0), .val (.int o1), .val (.int md), .val (.ref kr), .val (.int (1 : Int32)), .val (.ref kS), .unset, .unset, .unset, .unset, .unset] [(.int cc)])
          refine own_st (fun t_ k_ => XS.istore X128.here hx rfl (hb hby at_167) rfl (l' := #[.val (.int rN), .val (.int oN), .val (.int fg), .val (.int cb), .val (.int rl), .val (.int r0), .val (.int r1), .val (.int ol), .val (.int o0), .val (.int o1), .val (.int md), .val (.ref kr), .val (.int (1 : Int32)), .val (.ref kS), .val (.int cc), .unset, .unset, .unset, .unset]) rfl k_) ?_
          show own_Go p e below _ T128 (mkF m 169 #[.val (.int rN), .val (.int oN), .val (.int fg), .val (.int cb), .val (.int rl), .val (.int r0), .val (.int r1), .val (.int ol), .val (.int o0), .val (.int o1), .val (.int md), .val (.ref kr), .val (.int (1 : Int32)), .val (.ref kS), .val (.int cc), .unset, .unset, .unset, .unset] [])
          obtain ⟨T129, h129, X129, e129, E129, A129, D129, cel129, st129⟩ := newO X128 hx hZ hown (hw _ (List.mem_of_getElem? (i := 5) rfl)) (hw _ (List.mem_of_getElem? (i := 6) rfl)) (hw _ (List.mem_of_getElem? (i := 7) rfl)) e128 (g := (mkF m 169 #[.val (.int rN), .val (.int oN), .val (.int fg), .val (.int cb), .val (.int rl), .val (.int r0), .val (.int r1), .val (.int ol), .val (.int o0), .val (.int o1), .val (.int md), .val (.ref kr), .val (.int (1 : Int32)), .val (.ref kS), .val (.int cc), .unset, .unset, .unset, .unset] [])) rfl (hb hby at_169) (by decide) (by decide)
          obtain ⟨nb129, g129⟩ : ∃ z, z = h0.size := ⟨_, rfl⟩
          rw [← g129] at A129 D129 cel129 st129
          refine own_st st129 ?_
          have g_nb129 : n0 ≤ nb129 := Nat.le_trans (Nat.le_trans Z0 (Keep.refl h0 []).1) (Nat.le_of_eq g129.symm)
          have K129 : Keep h0 h129 [] := (Keep.refl h0 []).ext E129
          have sz_nb129 : h0.size ≤ nb129 := Nat.le_trans (Keep.refl h0 []).1 (Nat.le_of_eq g129.symm)
          have B129 := own_Bk.ext E129 B0
          have Sf129 := Safe.ext E129 (own_Bk.ch B0) (Safe.new (Nat.le_of_eq g129.symm))
          have F129_client : Fld Z h129 nb129 "com/example/gentle_nudge/gentlenudge/server/ChannelOwner" "client" "Ljava/lang/String;" .null := D129 (Or.inr (hw _ (List.mem_of_getElem? (i := 59) rfl))) (ty := (.object "java/lang/String")) (by decide)
          have F129_kind : Fld Z h129 nb129 "com/example/gentle_nudge/gentlenudge/server/ChannelOwner" "kind" "Lcom/example/gentle_nudge/gentlenudge/server/AccountKind;" .null := D129 (Or.inr (hw _ (List.mem_of_getElem? (i := 61) rfl))) (ty := (.object "com/example/gentle_nudge/gentlenudge/server/AccountKind")) (by decide)
          have F129_name : Fld Z h129 nb129 "com/example/gentle_nudge/gentlenudge/server/ChannelOwner" "name" "Ljava/lang/String;" .null := D129 (Or.inr (hw _ (List.mem_of_getElem? (i := 63) rfl))) (ty := (.object "java/lang/String")) (by decide)
          show own_Go p e below _ T129 (mkF m 172 #[.val (.int rN), .val (.int oN), .val (.int fg), .val (.int cb), .val (.int rl), .val (.int r0), .val (.int r1), .val (.int ol), .val (.int o0), .val (.int o1), .val (.int md), .val (.ref kr), .val (.int (1 : Int32)), .val (.ref kS), .val (.int cc), .unset, .unset, .unset, .unset] [(.ref nb129)])
          refine own_st (fun t_ k_ => XS.dup X129.here hx rfl (hb hby at_172) rfl rfl k_) ?_
          show own_Go p e below _ T129 (mkF m 173 #[.val (.int rN), .val (.int oN), .val (.int fg), .val (.int cb), .val (.int rl), .val (.int r0), .val (.int r1), .val (.int ol), .val (.int o0), .val (.int o1), .val (.int md), .val (.ref kr), .val (.int (1 : Int32)), .val (.ref kS), .val (.int cc), .unset, .unset, .unset, .unset] [(.ref nb129), (.ref nb129)])
          refine own_st (fun t_ k_ => XS.iload X129.here hx rfl (hb hby at_173) rfl k_) ?_
          show own_Go p e below _ T129 (mkF m 175 #[.val (.int rN), .val (.int oN), .val (.int fg), .val (.int cb), .val (.int rl), .val (.int r0), .val (.int r1), .val (.int ol), .val (.int o0), .val (.int o1), .val (.int md), .val (.ref kr), .val (.int (1 : Int32)), .val (.ref kS), .val (.int cc), .unset, .unset, .unset, .unset] [(.int cc), (.ref nb129), (.ref nb129)])
          have f130 := (O0.ext E129)
          refine own_callS X129 hx (y := (⟨"java/lang/String", "valueOf", "(C)Ljava/lang/String;"⟩ : MethodName)) hown (mvT hZ (hw _ (List.mem_of_getElem? (i := 8) rfl))) (mvT hZ (hw _ (List.mem_of_getElem? (i := 9) rfl))) (mvT hZ (hw _ (List.mem_of_getElem? (i := 10) rfl))) (mvT hZ (hw _ (List.mem_of_getElem? (i := 11) rfl))) (by decide) (backOf (W := 2) (rmVO l Z a0 hw [] cc G h129 n0 (Nat.le_trans Z0 K129.1) SC hCS f130 d_cc) hZ (hw _ (List.mem_of_getElem? (i := 11) rfl)) (hw _ (List.mem_of_getElem? (i := 10) rfl)) (by decide) (by decide)) (g := (mkF m 175 #[.val (.int rN), .val (.int oN), .val (.int fg), .val (.int cb), .val (.int rl), .val (.int r0), .val (.int r1), .val (.int ol), .val (.int o0), .val (.int o1), .val (.int md), .val (.ref kr), .val (.int (1 : Int32)), .val (.ref kS), .val (.int cc), .unset, .unset, .unset, .unset] [(.int cc), (.ref nb129), (.ref nb129)])) rfl (by rw [hml]; rfl) (argsL := [(.int cc)]) (rest := [(.ref nb129), (.ref nb129)]) (lenOf pd_10 rfl) rfl (by show 2 * 0 + _ ≤ _; exact Nat.le_of_eq rfl) (hb hby at_175) rfl e129 (by decide) (by decide) ?_
          rintro v131 T131 L131 X131 ⟨v131_, rfl, Nq131, Kq131, gt131, g_v131_⟩
          have N131 := Fr.app N0 Nq131
          have K131 : Keep h0 T131.heap [] := K129.trans Kq131 all0
          have B131 := own_Bk.keep Kq131 sf0 B129
          show own_Go p e below _ T131 (mkF m 178 #[.val (.int rN), .val (.int oN), .val (.int fg), .val (.int cb), .val (.int rl), .val (.int r0), .val (.int r1), .val (.int ol), .val (.int o0), .val (.int o1), .val (.int md), .val (.ref kr), .val (.int (1 : Int32)), .val (.ref kS), .val (.int cc), .unset, .unset, .unset, .unset] [(.ref v131_), (.ref nb129), (.ref nb129)])
          refine own_st (fun t_ k_ => XS.aload X131.here hx rfl (hb hby at_178) rfl rfl k_) ?_
          show own_Go p e below _ T131 (mkF m 180 #[.val (.int rN), .val (.int oN), .val (.int fg), .val (.int cb), .val (.int rl), .val (.int r0), .val (.int r1), .val (.int ol), .val (.int o0), .val (.int o1), .val (.int md), .val (.ref kr), .val (.int (1 : Int32)), .val (.ref kS), .val (.int cc), .unset, .unset, .unset, .unset] [(.ref kr), (.ref v131_), (.ref nb129), (.ref nb129)])
          refine own_st (fun t_ k_ => XS.iload X131.here hx rfl (hb hby at_180) rfl k_) ?_
          show own_Go p e below _ T131 (mkF m 182 #[.val (.int rN), .val (.int oN), .val (.int fg), .val (.int cb), .val (.int rl), .val (.int r0), .val (.int r1), .val (.int ol), .val (.int o0), .val (.int o1), .val (.int md), .val (.ref kr), .val (.int (1 : Int32)), .val (.ref kS), .val (.int cc), .unset, .unset, .unset, .unset] [(.int rl), (.ref kr), (.ref v131_), (.ref nb129), (.ref nb129)])
          refine own_st (fun t_ k_ => XS.iload X131.here hx rfl (hb hby at_182) rfl k_) ?_
          show own_Go p e below _ T131 (mkF m 184 #[.val (.int rN), .val (.int oN), .val (.int fg), .val (.int cb), .val (.int rl), .val (.int r0), .val (.int r1), .val (.int ol), .val (.int o0), .val (.int o1), .val (.int md), .val (.ref kr), .val (.int (1 : Int32)), .val (.ref kS), .val (.int cc), .unset, .unset, .unset, .unset] [(.int r0), (.int rl), (.ref kr), (.ref v131_), (.ref nb129), (.ref nb129)])
          refine own_st (fun t_ k_ => XS.iload X131.here hx rfl (hb hby at_184) rfl k_) ?_
          show own_Go p e below _ T131 (mkF m 186 #[.val (.int rN), .val (.int oN), .val (.int fg), .val (.int cb), .val (.int rl), .val (.int r0), .val (.int r1), .val (.int ol), .val (.int o0), .val (.int o1), .val (.int md), .val (.ref kr), .val (.int (1 : Int32)), .val (.ref kS), .val (.int cc), .unset, .unset, .unset, .unset] [(.int r1), (.int r0), (.int rl), (.ref kr), (.ref v131_), (.ref nb129), (.ref nb129)])
          have f132 := (f130.keep Kq131 all0)
          have f134 := (Safe.keep Kq131 sf0 (own_Bk.ch B129) Sf129)
          refine own_callSS X131 hx (y := (⟨"com/example/gentle_nudge/gentlenudge/server/ChannelOwnerMayStopChannelOfPinLaw", "mk", "(ICC)Ljava/lang/String;"⟩ : MethodName)) hown (mvT hZ (hw _ (List.mem_of_getElem? (i := 34) rfl))) (mvT hZ (hw _ (List.mem_of_getElem? (i := 35) rfl))) (mvT hZ (hw _ (List.mem_of_getElem? (i := 36) rfl))) (mvT hZ (hw _ (List.mem_of_getElem? (i := 37) rfl))) (by decide) (backOfSH (W := 4) (rmMK l Z a0 hw [] rl r0 r1 G T131.heap n0 (Nat.le_trans Z0 K131.1) SC hCS f132 d_r0 d_r1) hZ (hw _ (List.mem_of_getElem? (i := 37) rfl)) (hw _ (List.mem_of_getElem? (i := 36) rfl)) (by decide) (by decide) hEL (own_Bk.ch B131)) (g := (mkF m 186 #[.val (.int rN), .val (.int oN), .val (.int fg), .val (.int cb), .val (.int rl), .val (.int r0), .val (.int r1), .val (.int ol), .val (.int o0), .val (.int o1), .val (.int md), .val (.ref kr), .val (.int (1 : Int32)), .val (.ref kS), .val (.int cc), .unset, .unset, .unset, .unset] [(.int r1), (.int r0), (.int rl), (.ref kr), (.ref v131_), (.ref nb129), (.ref nb129)])) rfl (by rw [hml]; rfl) (argsL := [(.int rl), (.int r0), (.int r1)]) (rest := [(.ref kr), (.ref v131_), (.ref nb129), (.ref nb129)]) (lenOf pd_11 rfl) rfl (by show 2 * 0 + _ ≤ _; exact Nat.le_of_eq rfl) (hb hby at_186) rfl rfl (by decide) (by decide) hZ B131 ?_
          rintro v133 T133 L133 X133 ⟨x133, t133, kb133, rfl, Nq133, Kq133, gx133, g_x133, nt133, Ex133, Cq133, Vq133, Aq133, hp133⟩ CH133 B133 hZ hown
          have N133 := Fr.app N131 Nq133
          have K133 : Keep h0 T133.heap [] := K131.trans Kq133 all0
          have sz_x133 : h0.size ≤ x133 := Nat.le_trans K131.1 gx133
          show own_Go p e below _ T133 (mkF m 189 #[.val (.int rN), .val (.int oN), .val (.int fg), .val (.int cb), .val (.int rl), .val (.int r0), .val (.int r1), .val (.int ol), .val (.int o0), .val (.int o1), .val (.int md), .val (.ref kr), .val (.int (1 : Int32)), .val (.ref kS), .val (.int cc), .unset, .unset, .unset, .unset] [(.ref x133), (.ref kr), (.ref v131_), (.ref nb129), (.ref nb129)])
          have f135 := (A129.keep Kq131)
          have f136 := (f135.keep Kq133)
          have f137 := (F129_client.keep Kq131 nin0)
          have f138 := (f137.keep Kq133 nin0)
          have f139 := (F129_kind.keep Kq131 nin0)
          have f140 := (f139.keep Kq133 nin0)
          have f141 := (F129_name.keep Kq131 nin0)
          have f142 := (f141.keep Kq133 nin0)
          refine own_callN X133 hx (y := (⟨"com/example/gentle_nudge/gentlenudge/server/ChannelOwner", "<init>", "(Ljava/lang/String;Lcom/example/gentle_nudge/gentlenudge/server/AccountKind;Ljava/lang/String;)V"⟩ : MethodName)) rfl hown (mvT hZ (hw _ (List.mem_of_getElem? (i := 49) rfl))) (mvT hZ (hw _ (List.mem_of_getElem? (i := 50) rfl))) (mvT hZ (hw _ (List.mem_of_getElem? (i := 51) rfl))) (by decide) (backOf (W := 1) (rmCI l Z a0 hw [] nb129 v131_ kr x133 T133.heap n0 (Nat.le_trans Z0 K133.1) g_nb129 f136 f138 f140 f142) hZ (hw _ (List.mem_of_getElem? (i := 51) rfl)) (hw _ (List.mem_of_getElem? (i := 7) rfl)) (by decide) (by decide)) (a := nb129) (g := (mkF m 189 #[.val (.int rN), .val (.int oN), .val (.int fg), .val (.int cb), .val (.int rl), .val (.int r0), .val (.int r1), .val (.int ol), .val (.int o0), .val (.int o1), .val (.int md), .val (.ref kr), .val (.int (1 : Int32)), .val (.ref kS), .val (.int cc), .unset, .unset, .unset, .unset] [(.ref x133), (.ref kr), (.ref v131_), (.ref nb129), (.ref nb129)])) rfl (by rw [hml]; rfl) (argsL := [(.ref v131_), (.ref kr), (.ref x133)]) (rest := [(.ref nb129)]) (lenOf pd_12 rfl) rfl (by show 2 * 0 + _ ≤ _; exact Nat.le_of_eq rfl) (hb hby at_189) rfl rfl (by decide) (by decide) ?_
          rintro v143 T143 L143 X143 ⟨rfl, Nq143, Kq143, Eq143, Fk143, Fn143⟩
          have N143 := Fr.app N133 Nq143
          have K143 : Keep h0 T143.heap [] := K133.trans Kq143 (allS (Or.inr sz_nb129) all0)
          have f144 := (CHr.safe CH133 f135.lt f134)
          have B143 := own_Bk.keep Kq143 (sfS f144 sf0) B133
          show own_Go p e below _ T143 (mkF m 192 #[.val (.int rN), .val (.int oN), .val (.int fg), .val (.int cb), .val (.int rl), .val (.int r0), .val (.int r1), .val (.int ol), .val (.int o0), .val (.int o1), .val (.int md), .val (.ref kr), .val (.int (1 : Int32)), .val (.ref kS), .val (.int cc), .unset, .unset, .unset, .unset] [(.ref nb129)])
          refine own_st (fun t_ k_ => XS.astore X143.here hx rfl (hb hby at_192) rfl rfl (l' := #[.val (.int rN), .val (.int oN), .val (.int fg), .val (.int cb), .val (.int rl), .val (.int r0), .val (.int r1), .val (.int ol), .val (.int o0), .val (.int o1), .val (.int md), .val (.ref kr), .val (.int (1 : Int32)), .val (.ref kS), .val (.int cc), .val (.ref nb129), .unset, .unset, .unset]) rfl k_) ?_
          show own_Go p e below _ T143 (mkF m 194 #[.val (.int rN), .val (.int oN), .val (.int fg), .val (.int cb), .val (.int rl), .val (.int r0), .val (.int r1), .val (.int ol), .val (.int o0), .val (.int o1), .val (.int md), .val (.ref kr), .val (.int (1 : Int32)), .val (.ref kS), .val (.int cc), .val (.ref nb129), .unset, .unset, .unset] [])
          obtain ⟨T145, h145, X145, e145, E145, A145, D145, cel145, st145⟩ := newO X143 hx hZ hown (hw _ (List.mem_of_getElem? (i := 5) rfl)) (hw _ (List.mem_of_getElem? (i := 6) rfl)) (hw _ (List.mem_of_getElem? (i := 7) rfl)) rfl (g := (mkF m 194 #[.val (.int rN), .val (.int oN), .val (.int fg), .val (.int cb), .val (.int rl), .val (.int r0), .val (.int r1), .val (.int ol), .val (.int o0), .val (.int o1), .val (.int md), .val (.ref kr), .val (.int (1 : Int32)), .val (.ref kS), .val (.int cc), .val (.ref nb129), .unset, .unset, .unset] [])) rfl (hb hby at_194) (by decide) (by decide)
          obtain ⟨nb145, g145⟩ : ∃ z, z = T143.heap.size := ⟨_, rfl⟩
          rw [← g145] at A145 D145 cel145 st145
          refine own_st st145 ?_
          have g_nb145 : n0 ≤ nb145 := Nat.le_trans (Nat.le_trans Z0 K143.1) (Nat.le_of_eq g145.symm)
          have K145 : Keep h0 h145 [] := K143.ext E145
          have sz_nb145 : h0.size ≤ nb145 := Nat.le_trans K143.1 (Nat.le_of_eq g145.symm)
          have B145 := own_Bk.ext E145 B143
          have Sf145 := Safe.ext E145 (own_Bk.ch B143) (Safe.new (Nat.le_of_eq g145.symm))
          have F145_client : Fld Z h145 nb145 "com/example/gentle_nudge/gentlenudge/server/ChannelOwner" "client" "Ljava/lang/String;" .null := D145 (Or.inr (hw _ (List.mem_of_getElem? (i := 59) rfl))) (ty := (.object "java/lang/String")) (by decide)
          have F145_kind : Fld Z h145 nb145 "com/example/gentle_nudge/gentlenudge/server/ChannelOwner" "kind" "Lcom/example/gentle_nudge/gentlenudge/server/AccountKind;" .null := D145 (Or.inr (hw _ (List.mem_of_getElem? (i := 61) rfl))) (ty := (.object "com/example/gentle_nudge/gentlenudge/server/AccountKind")) (by decide)
          have F145_name : Fld Z h145 nb145 "com/example/gentle_nudge/gentlenudge/server/ChannelOwner" "name" "Ljava/lang/String;" .null := D145 (Or.inr (hw _ (List.mem_of_getElem? (i := 63) rfl))) (ty := (.object "java/lang/String")) (by decide)
          show own_Go p e below _ T145 (mkF m 197 #[.val (.int rN), .val (.int oN), .val (.int fg), .val (.int cb), .val (.int rl), .val (.int r0), .val (.int r1), .val (.int ol), .val (.int o0), .val (.int o1), .val (.int md), .val (.ref kr), .val (.int (1 : Int32)), .val (.ref kS), .val (.int cc), .val (.ref nb129), .unset, .unset, .unset] [(.ref nb145)])
          refine own_st (fun t_ k_ => XS.dup X145.here hx rfl (hb hby at_197) rfl rfl k_) ?_
          show own_Go p e below _ T145 (mkF m 198 #[.val (.int rN), .val (.int oN), .val (.int fg), .val (.int cb), .val (.int rl), .val (.int r0), .val (.int r1), .val (.int ol), .val (.int o0), .val (.int o1), .val (.int md), .val (.ref kr), .val (.int (1 : Int32)), .val (.ref kS), .val (.int cc), .val (.ref nb129), .unset, .unset, .unset] [(.ref nb145), (.ref nb145)])
          refine own_st (fun t_ k_ => XS.iload X145.here hx rfl (hb hby at_198) rfl k_) ?_
          show own_Go p e below _ T145 (mkF m 200 #[.val (.int rN), .val (.int oN), .val (.int fg), .val (.int cb), .val (.int rl), .val (.int r0), .val (.int r1), .val (.int ol), .val (.int o0), .val (.int o1), .val (.int md), .val (.ref kr), .val (.int (1 : Int32)), .val (.ref kS), .val (.int cc), .val (.ref nb129), .unset, .unset, .unset] [(.int cc), (.ref nb145), (.ref nb145)])
          have f146 := (f132.keep Kq133 all0)
          have f147 := (f146.keep Kq143 (allS g_nb129 all0))
          have f148 := (f147.ext E145)
          refine own_callS X145 hx (y := (⟨"java/lang/String", "valueOf", "(C)Ljava/lang/String;"⟩ : MethodName)) hown (mvT hZ (hw _ (List.mem_of_getElem? (i := 8) rfl))) (mvT hZ (hw _ (List.mem_of_getElem? (i := 9) rfl))) (mvT hZ (hw _ (List.mem_of_getElem? (i := 10) rfl))) (mvT hZ (hw _ (List.mem_of_getElem? (i := 11) rfl))) (by decide) (backOf (W := 2) (rmVO l Z a0 hw [] cc G h145 n0 (Nat.le_trans Z0 K145.1) SC hCS f148 d_cc) hZ (hw _ (List.mem_of_getElem? (i := 11) rfl)) (hw _ (List.mem_of_getElem? (i := 10) rfl)) (by decide) (by decide)) (g := (mkF m 200 #[.val (.int rN), .val (.int oN), .val (.int fg), .val (.int cb), .val (.int rl), .val (.int r0), .val (.int r1), .val (.int ol), .val (.int o0), .val (.int o1), .val (.int md), .val (.ref kr), .val (.int (1 : Int32)), .val (.ref kS), .val (.int cc), .val (.ref nb129), .unset, .unset, .unset] [(.int cc), (.ref nb145), (.ref nb145)])) rfl (by rw [hml]; rfl) (argsL := [(.int cc)]) (rest := [(.ref nb145), (.ref nb145)]) (lenOf pd_10 rfl) rfl (by show 2 * 0 + _ ≤ _; exact Nat.le_of_eq rfl) (hb hby at_200) rfl e145 (by decide) (by decide) ?_
          rintro v149 T149 L149 X149 ⟨v149_, rfl, Nq149, Kq149, gt149, g_v149_⟩
          have N149 := Fr.app N143 Nq149
          have K149 : Keep h0 T149.heap [] := K145.trans Kq149 all0
          have B149 := own_Bk.keep Kq149 sf0 B145
          show own_Go p e below _ T149 (mkF m 203 #[.val (.int rN), .val (.int oN), .val (.int fg), .val (.int cb), .val (.int rl), .val (.int r0), .val (.int r1), .val (.int ol), .val (.int o0), .val (.int o1), .val (.int md), .val (.ref kr), .val (.int (1 : Int32)), .val (.ref kS), .val (.int cc), .val (.ref nb129), .unset, .unset, .unset] [(.ref v149_), (.ref nb145), (.ref nb145)])
          refine own_st (fun t_ k_ => XS.aload X149.here hx rfl (hb hby at_203) rfl rfl k_) ?_
          show own_Go p e below _ T149 (mkF m 205 #[.val (.int rN), .val (.int oN), .val (.int fg), .val (.int cb), .val (.int rl), .val (.int r0), .val (.int r1), .val (.int ol), .val (.int o0), .val (.int o1), .val (.int md), .val (.ref kr), .val (.int (1 : Int32)), .val (.ref kS), .val (.int cc), .val (.ref nb129), .unset, .unset, .unset] [(.ref kS), (.ref v149_), (.ref nb145), (.ref nb145)])
          refine own_st (fun t_ k_ => XS.iload X149.here hx rfl (hb hby at_205) rfl k_) ?_
          show own_Go p e below _ T149 (mkF m 207 #[.val (.int rN), .val (.int oN), .val (.int fg), .val (.int cb), .val (.int rl), .val (.int r0), .val (.int r1), .val (.int ol), .val (.int o0), .val (.int o1), .val (.int md), .val (.ref kr), .val (.int (1 : Int32)), .val (.ref kS), .val (.int cc), .val (.ref nb129), .unset, .unset, .unset] [(.int ol), (.ref kS), (.ref v149_), (.ref nb145), (.ref nb145)])
          refine own_st (fun t_ k_ => XS.iload X149.here hx rfl (hb hby at_207) rfl k_) ?_
          show own_Go p e below _ T149 (mkF m 209 #[.val (.int rN), .val (.int oN), .val (.int fg), .val (.int cb), .val (.int rl), .val (.int r0), .val (.int r1), .val (.int ol), .val (.int o0), .val (.int o1), .val (.int md), .val (.ref kr), .val (.int (1 : Int32)), .val (.ref kS), .val (.int cc), .val (.ref nb129), .unset, .unset, .unset] [(.int o0), (.int ol), (.ref kS), (.ref v149_), (.ref nb145), (.ref nb145)])
          refine own_st (fun t_ k_ => XS.iload X149.here hx rfl (hb hby at_209) rfl k_) ?_
          show own_Go p e below _ T149 (mkF m 211 #[.val (.int rN), .val (.int oN), .val (.int fg), .val (.int cb), .val (.int rl), .val (.int r0), .val (.int r1), .val (.int ol), .val (.int o0), .val (.int o1), .val (.int md), .val (.ref kr), .val (.int (1 : Int32)), .val (.ref kS), .val (.int cc), .val (.ref nb129), .unset, .unset, .unset] [(.int o1), (.int o0), (.int ol), (.ref kS), (.ref v149_), (.ref nb145), (.ref nb145)])
          have f150 := (f148.keep Kq149 all0)
          have f152 := (Safe.keep Kq143 (sfS f144 sf0) (own_Bk.ch B133) f144)
          have f153 := (Safe.ext E145 (own_Bk.ch B143) f152)
          have f154 := (Safe.keep Kq149 sf0 (own_Bk.ch B145) f153)
          have f155 := (Safe.keep Kq149 sf0 (own_Bk.ch B145) Sf145)
          refine own_callSS X149 hx (y := (⟨"com/example/gentle_nudge/gentlenudge/server/ChannelOwnerMayStopChannelOfPinLaw", "mk", "(ICC)Ljava/lang/String;"⟩ : MethodName)) hown (mvT hZ (hw _ (List.mem_of_getElem? (i := 34) rfl))) (mvT hZ (hw _ (List.mem_of_getElem? (i := 35) rfl))) (mvT hZ (hw _ (List.mem_of_getElem? (i := 36) rfl))) (mvT hZ (hw _ (List.mem_of_getElem? (i := 37) rfl))) (by decide) (backOfSH (W := 4) (rmMK l Z a0 hw [] ol o0 o1 G T149.heap n0 (Nat.le_trans Z0 K149.1) SC hCS f150 d_o0 d_o1) hZ (hw _ (List.mem_of_getElem? (i := 37) rfl)) (hw _ (List.mem_of_getElem? (i := 36) rfl)) (by decide) (by decide) hEL (own_Bk.ch B149)) (g := (mkF m 211 #[.val (.int rN), .val (.int oN), .val (.int fg), .val (.int cb), .val (.int rl), .val (.int r0), .val (.int r1), .val (.int ol), .val (.int o0), .val (.int o1), .val (.int md), .val (.ref kr), .val (.int (1 : Int32)), .val (.ref kS), .val (.int cc), .val (.ref nb129), .unset, .unset, .unset] [(.int o1), (.int o0), (.int ol), (.ref kS), (.ref v149_), (.ref nb145), (.ref nb145)])) rfl (by rw [hml]; rfl) (argsL := [(.int ol), (.int o0), (.int o1)]) (rest := [(.ref kS), (.ref v149_), (.ref nb145), (.ref nb145)]) (lenOf pd_11 rfl) rfl (by show 2 * 0 + _ ≤ _; exact Nat.le_of_eq rfl) (hb hby at_211) rfl rfl (by decide) (by decide) hZ B149 ?_
          rintro v151 T151 L151 X151 ⟨x151, t151, kb151, rfl, Nq151, Kq151, gx151, g_x151, nt151, Ex151, Cq151, Vq151, Aq151, hp151⟩ CH151 B151 hZ hown
          have N151 := Fr.app N149 Nq151
          have K151 : Keep h0 T151.heap [] := K149.trans Kq151 all0
          have sz_x151 : h0.size ≤ x151 := Nat.le_trans K149.1 gx151
          show own_Go p e below _ T151 (mkF m 214 #[.val (.int rN), .val (.int oN), .val (.int fg), .val (.int cb), .val (.int rl), .val (.int r0), .val (.int r1), .val (.int ol), .val (.int o0), .val (.int o1), .val (.int md), .val (.ref kr), .val (.int (1 : Int32)), .val (.ref kS), .val (.int cc), .val (.ref nb129), .unset, .unset, .unset] [(.ref x151), (.ref kS), (.ref v149_), (.ref nb145), (.ref nb145)])
          have f156 := (A145.keep Kq149)
          have f157 := (f156.keep Kq151)
          have f158 := (F145_client.keep Kq149 nin0)
          have f159 := (f158.keep Kq151 nin0)
          have f160 := (F145_kind.keep Kq149 nin0)
          have f161 := (f160.keep Kq151 nin0)
          have f162 := (F145_name.keep Kq149 nin0)
          have f163 := (f162.keep Kq151 nin0)
          refine own_callN X151 hx (y := (⟨"com/example/gentle_nudge/gentlenudge/server/ChannelOwner", "<init>", "(Ljava/lang/String;Lcom/example/gentle_nudge/gentlenudge/server/AccountKind;Ljava/lang/String;)V"⟩ : MethodName)) rfl hown (mvT hZ (hw _ (List.mem_of_getElem? (i := 49) rfl))) (mvT hZ (hw _ (List.mem_of_getElem? (i := 50) rfl))) (mvT hZ (hw _ (List.mem_of_getElem? (i := 51) rfl))) (by decide) (backOf (W := 1) (rmCI l Z a0 hw [] nb145 v149_ kS x151 T151.heap n0 (Nat.le_trans Z0 K151.1) g_nb145 f157 f159 f161 f163) hZ (hw _ (List.mem_of_getElem? (i := 51) rfl)) (hw _ (List.mem_of_getElem? (i := 7) rfl)) (by decide) (by decide)) (a := nb145) (g := (mkF m 214 #[.val (.int rN), .val (.int oN), .val (.int fg), .val (.int cb), .val (.int rl), .val (.int r0), .val (.int r1), .val (.int ol), .val (.int o0), .val (.int o1), .val (.int md), .val (.ref kr), .val (.int (1 : Int32)), .val (.ref kS), .val (.int cc), .val (.ref nb129), .unset, .unset, .unset] [(.ref x151), (.ref kS), (.ref v149_), (.ref nb145), (.ref nb145)])) rfl (by rw [hml]; rfl) (argsL := [(.ref v149_), (.ref kS), (.ref x151)]) (rest := [(.ref nb145)]) (lenOf pd_12 rfl) rfl (by show 2 * 0 + _ ≤ _; exact Nat.le_of_eq rfl) (hb hby at_214) rfl rfl (by decide) (by decide) ?_
          rintro v164 T164 L164 X164 ⟨rfl, Nq164, Kq164, Eq164, Fk164, Fn164⟩
          have N164 := Fr.app N151 Nq164
          have K164 : Keep h0 T164.heap [] := K151.trans Kq164 (allS (Or.inr sz_nb145) all0)
          have f165 := (CHr.safe CH151 f156.lt f155)
          have B164 := own_Bk.keep Kq164 (sfS f165 sf0) B151
          show own_Go p e below _ T164 (mkF m 217 #[.val (.int rN), .val (.int oN), .val (.int fg), .val (.int cb), .val (.int rl), .val (.int r0), .val (.int r1), .val (.int ol), .val (.int o0), .val (.int o1), .val (.int md), .val (.ref kr), .val (.int (1 : Int32)), .val (.ref kS), .val (.int cc), .val (.ref nb129), .unset, .unset, .unset] [(.ref nb145)])
          refine own_st (fun t_ k_ => XS.astore X164.here hx rfl (hb hby at_217) rfl rfl (l' := #[.val (.int rN), .val (.int oN), .val (.int fg), .val (.int cb), .val (.int rl), .val (.int r0), .val (.int r1), .val (.int ol), .val (.int o0), .val (.int o1), .val (.int md), .val (.ref kr), .val (.int (1 : Int32)), .val (.ref kS), .val (.int cc), .val (.ref nb129), .val (.ref nb145), .unset, .unset]) rfl k_) ?_
          show own_Go p e below _ T164 (mkF m 219 #[.val (.int rN), .val (.int oN), .val (.int fg), .val (.int cb), .val (.int rl), .val (.int r0), .val (.int r1), .val (.int ol), .val (.int o0), .val (.int o1), .val (.int md), .val (.ref kr), .val (.int (1 : Int32)), .val (.ref kS), .val (.int cc), .val (.ref nb129), .val (.ref nb145), .unset, .unset] [])
          refine own_st (fun t_ k_ => XS.aload X164.here hx rfl (hb hby at_219) rfl rfl k_) ?_
          show own_Go p e below _ T164 (mkF m 221 #[.val (.int rN), .val (.int oN), .val (.int fg), .val (.int cb), .val (.int rl), .val (.int r0), .val (.int r1), .val (.int ol), .val (.int o0), .val (.int o1), .val (.int md), .val (.ref kr), .val (.int (1 : Int32)), .val (.ref kS), .val (.int cc), .val (.ref nb129), .val (.ref nb145), .unset, .unset] [(.ref nb129)])
          refine own_st (fun t_ k_ => XS.aload X164.here hx rfl (hb hby at_221) rfl rfl k_) ?_
          show own_Go p e below _ T164 (mkF m 223 #[.val (.int rN), .val (.int oN), .val (.int fg), .val (.int cb), .val (.int rl), .val (.int r0), .val (.int r1), .val (.int ol), .val (.int o0), .val (.int o1), .val (.int md), .val (.ref kr), .val (.int (1 : Int32)), .val (.ref kS), .val (.int cc), .val (.ref nb129), .val (.ref nb145), .unset, .unset] [(.ref nb145), (.ref nb129)])
          have f166 := (Fld.ext E145 Fn143)
          have f167 := (f166.keep Kq149 nin0)
          have f168 := (f167.keep Kq151 nin0)
          have ne169 : nb129 ≠ nb145 := (Nat.ne_of_lt (Nat.lt_of_lt_of_le Eq143.lt (Nat.le_of_eq g145.symm)))
          have f170 := (f168.keep Kq164 (ninS ne169 nin0))
          have f171 := (Exa.ext E145 Eq143)
          have f172 := (f171.keep Kq149)
          have f173 := (f172.keep Kq151)
          have f174 := (f173.keep Kq164)
          have f175 := (Exa.ext E129 ES)
          have f176 := (f175.keep Kq131)
          have f177 := (f176.keep Kq133)
          have f178 := (f177.keep Kq143)
          have f179 := (Exa.ext E145 f178)
          have f180 := (f179.keep Kq149)
          have f181 := (f180.keep Kq151)
          have f182 := (f181.keep Kq164)
          have f183 := (f150.keep Kq151 all0)
          have f184 := (f183.keep Kq164 (allS g_nb145 all0))
          have f185 := (As.ext E129)
          have f186 := (f185.keep Kq131 nin0)
          have f187 := (f186.keep Kq133 nin0)
          have ne188 : sm ≠ nb129 := (Nat.ne_of_lt (Nat.lt_of_lt_of_le As.lt (Nat.le_of_eq g129.symm)))
          have f189 := (f187.keep Kq143 (ninS ne188 nin0))
          have f190 := (f189.ext E145)
          have f191 := (f190.keep Kq149 nin0)
          have f192 := (f191.keep Kq151 nin0)
          have f194 := (f187.keep Kq143 (ninS ne188 nin0))
          have ne193 : sm ≠ nb145 := (Nat.ne_of_lt (Nat.lt_of_lt_of_le f194.lt (Nat.le_of_eq g145.symm)))
          have f195 := (f192.keep Kq164 (ninS ne193 nin0))
          have f196 := (Fld.ext E129 FS)
          have f197 := (f196.keep Kq131 nin0)
          have f198 := (f197.keep Kq133 nin0)
          have ne199 : kS ≠ nb129 := (Nat.ne_of_lt (Nat.lt_of_lt_of_le ES.lt (Nat.le_of_eq g129.symm)))
          have f200 := (f198.keep Kq143 (ninS ne199 nin0))
          have f201 := (Fld.ext E145 f200)
          have f202 := (f201.keep Kq149 nin0)
          have f203 := (f202.keep Kq151 nin0)
          have ne204 : kS ≠ nb145 := (Nat.ne_of_lt (Nat.lt_of_lt_of_le f178.lt (Nat.le_of_eq g145.symm)))
          have f205 := (f203.keep Kq164 (ninS ne204 nin0))
          obtain ⟨cq207, kq207, q207a, q207b, q207c⟩ := isOf hZ rfl f174
          refine own_callV X164 hx (y := (⟨"com/example/gentle_nudge/gentlenudge/server/ChannelOwner", "mayStopChannelOf", "(Lcom/example/gentle_nudge/gentlenudge/server/ChannelOwner;)Z"⟩ : MethodName)) (z := (⟨"com/example/gentle_nudge/gentlenudge/server/ChannelOwner", "mayStopChannelOf", "(Lcom/example/gentle_nudge/gentlenudge/server/ChannelOwner;)Z"⟩ : MethodName)) hown (mvT hZ (hw _ (List.mem_of_getElem? (i := 64) rfl))) (mvT hZ (hw _ (List.mem_of_getElem? (i := 65) rfl))) (notFace_of_selects (args := #[]) (mvT hZ (hw _ (List.mem_of_getElem? (i := 67) rfl)))) (mvT hZ (hw _ (List.mem_of_getElem? (i := 67) rfl))) (mvT hZ (hw _ (List.mem_of_getElem? (i := 66) rfl))) (by decide) (backOf (W := 0) (rmMS l Z a0 hw [] nb129 nb145 kS sm ks T164.heap n0 (Nat.le_trans Z0 K164.1) f174 Eq164 Fk164 f182 (Sta.ext f184.2 SS) f195 f205) hZ (hw _ (List.mem_of_getElem? (i := 68) rfl)) (hw _ (List.mem_of_getElem? (i := 7) rfl)) (by decide) (by decide)) q207a q207c (g := (mkF m 223 #[.val (.int rN), .val (.int oN), .val (.int fg), .val (.int cb), .val (.int rl), .val (.int r0), .val (.int r1), .val (.int ol), .val (.int o0), .val (.int o1), .val (.int md), .val (.ref kr), .val (.int (1 : Int32)), .val (.ref kS), .val (.int cc), .val (.ref nb129), .val (.ref nb145), .unset, .unset] [(.ref nb145), (.ref nb129)])) rfl (by rw [hml]; rfl) (argsL := [(.ref nb145)]) (rest := []) (lenOf pd_13 rfl) rfl (by show 2 * 0 + _ ≤ _; exact Nat.le_of_eq rfl) (hb hby at_223) rfl rfl (by decide) (by decide) ?_
          rintro v206 T206 L206 X206 ⟨rfl, Nq206, hh206⟩
          have N206 := Fr.app N164 Nq206
          show own_Go p e below _ T206 (mkF m 226 #[.val (.int rN), .val (.int oN), .val (.int fg), .val (.int cb), .val (.int rl), .val (.int r0), .val (.int r1), .val (.int ol), .val (.int o0), .val (.int o1), .val (.int md), .val (.ref kr), .val (.int (1 : Int32)), .val (.ref kS), .val (.int cc), .val (.ref nb129), .val (.ref nb145), .unset, .unset] [(.int (1 : Int32))])
          refine own_st (fun t_ k_ => XS.istore X206.here hx rfl (hb hby at_226) rfl (l' := #[.val (.int rN), .val (.int oN), .val (.int fg), .val (.int cb), .val (.int rl), .val (.int r0), .val (.int r1), .val (.int ol), .val (.int o0), .val (.int o1), .val (.int md), .val (.ref kr), .val (.int (1 : Int32)), .val (.ref kS), .val (.int cc), .val (.ref nb129), .val (.ref nb145), .val (.int (1 : Int32)), .unset]) rfl k_) ?_
          show own_Go p e below _ T206 (mkF m 228 #[.val (.int rN), .val (.int oN), .val (.int fg), .val (.int cb), .val (.int rl), .val (.int r0), .val (.int r1), .val (.int ol), .val (.int o0), .val (.int o1), .val (.int md), .val (.ref kr), .val (.int (1 : Int32)), .val (.ref kS), .val (.int cc), .val (.ref nb129), .val (.ref nb145), .val (.int (1 : Int32)), .unset] [])
          refine own_st (fun t_ k_ => XS.iload X206.here hx rfl (hb hby at_228) rfl k_) ?_
          show own_Go p e below _ T206 (mkF m 230 #[.val (.int rN), .val (.int oN), .val (.int fg), .val (.int cb), .val (.int rl), .val (.int r0), .val (.int r1), .val (.int ol), .val (.int o0), .val (.int o1), .val (.int md), .val (.ref kr), .val (.int (1 : Int32)), .val (.ref kS), .val (.int cc), .val (.ref nb129), .val (.ref nb145), .val (.int (1 : Int32)), .unset] [(.int rl)])
          refine own_st (fun t_ k_ => XS.iload X206.here hx rfl (hb hby at_230) rfl k_) ?_
          show own_Go p e below _ T206 (mkF m 232 #[.val (.int rN), .val (.int oN), .val (.int fg), .val (.int cb), .val (.int rl), .val (.int r0), .val (.int r1), .val (.int ol), .val (.int o0), .val (.int o1), .val (.int md), .val (.ref kr), .val (.int (1 : Int32)), .val (.ref kS), .val (.int cc), .val (.ref nb129), .val (.ref nb145), .val (.int (1 : Int32)), .unset] [(.int ol), (.int rl)])
          refine own_join (α := Int32) (F := fun bs => bs = (0 : Int32) ∨ bs = (1 : Int32)) (T' := T206) (g' := fun bs => (mkF m 266 #[.val (.int rN), .val (.int oN), .val (.int fg), .val (.int cb), .val (.int rl), .val (.int r0), .val (.int r1), .val (.int ol), .val (.int o0), .val (.int o1), .val (.int md), .val (.ref kr), .val (.int (1 : Int32)), .val (.ref kS), .val (.int cc), .val (.ref nb129), .val (.ref nb145), .val (.int (1 : Int32)), .unset] [(.int bs)])) (fun bs h_bs => ?_) (fun J_bs => ?_)
          · show own_Go p e below _ T206 (mkF m 266 #[.val (.int rN), .val (.int oN), .val (.int fg), .val (.int cb), .val (.int rl), .val (.int r0), .val (.int r1), .val (.int ol), .val (.int o0), .val (.int o1), .val (.int md), .val (.ref kr), .val (.int (1 : Int32)), .val (.ref kS), .val (.int cc), .val (.ref nb129), .val (.ref nb145), .val (.int (1 : Int32)), .unset] [(.int bs)])
            refine own_st (fun t_ k_ => XS.istore X206.here hx rfl (hb hby at_266) rfl (l' := #[.val (.int rN), .val (.int oN), .val (.int fg), .val (.int cb), .val (.int rl), .val (.int r0), .val (.int r1), .val (.int ol), .val (.int o0), .val (.int o1), .val (.int md), .val (.ref kr), .val (.int (1 : Int32)), .val (.ref kS), .val (.int cc), .val (.ref nb129), .val (.ref nb145), .val (.int (1 : Int32)), .val (.int bs)]) rfl k_) ?_
            show own_Go p e below _ T206 (mkF m 268 #[.val (.int rN), .val (.int oN), .val (.int fg), .val (.int cb), .val (.int rl), .val (.int r0), .val (.int r1), .val (.int ol), .val (.int o0), .val (.int o1), .val (.int md), .val (.ref kr), .val (.int (1 : Int32)), .val (.ref kS), .val (.int cc), .val (.ref nb129), .val (.ref nb145), .val (.int (1 : Int32)), .val (.int bs)] [])
            refine own_st (fun t_ k_ => XS.iload X206.here hx rfl (hb hby at_268) rfl k_) ?_
            show own_Go p e below _ T206 (mkF m 270 #[.val (.int rN), .val (.int oN), .val (.int fg), .val (.int cb), .val (.int rl), .val (.int r0), .val (.int r1), .val (.int ol), .val (.int o0), .val (.int o1), .val (.int md), .val (.ref kr), .val (.int (1 : Int32)), .val (.ref kS), .val (.int cc), .val (.ref nb129), .val (.ref nb145), .val (.int (1 : Int32)), .val (.int bs)] [(.int (1 : Int32))])
            refine own_st (fun t_ k_ => XS.iload X206.here hx rfl (hb hby at_270) rfl k_) ?_
            show own_Go p e below _ T206 (mkF m 272 #[.val (.int rN), .val (.int oN), .val (.int fg), .val (.int cb), .val (.int rl), .val (.int r0), .val (.int r1), .val (.int ol), .val (.int o0), .val (.int o1), .val (.int md), .val (.ref kr), .val (.int (1 : Int32)), .val (.ref kS), .val (.int cc), .val (.ref nb129), .val (.ref nb145), .val (.int (1 : Int32)), .val (.int bs)] [(.int (1 : Int32)), (.int (1 : Int32))])
            refine own_st (fun t_ k_ => XS.ifYes X206.here hx rfl (pc0 := 272) (pc' := 280) rfl (hb hby at_272) rfl (by decide) (by decide) (by decide) k_) ?_
            show own_Go p e below _ T206 (mkF m 280 #[.val (.int rN), .val (.int oN), .val (.int fg), .val (.int cb), .val (.int rl), .val (.int r0), .val (.int r1), .val (.int ol), .val (.int o0), .val (.int o1), .val (.int md), .val (.ref kr), .val (.int (1 : Int32)), .val (.ref kS), .val (.int cc), .val (.ref nb129), .val (.ref nb145), .val (.int (1 : Int32)), .val (.int bs)] [(.int (1 : Int32))])
            refine own_st (fun t_ k_ => XS.iconst X206.here hx rfl (hb hby at_280) k_) ?_
            show own_Go p e below _ T206 (mkF m 281 #[.val (.int rN), .val (.int oN), .val (.int fg), .val (.int cb), .val (.int rl), .val (.int r0), .val (.int r1), .val (.int ol), .val (.int o0), .val (.int o1), .val (.int md), .val (.ref kr), .val (.int (1 : Int32)), .val (.ref kS), .val (.int cc), .val (.ref nb129), .val (.ref nb145), .val (.int (1 : Int32)), .val (.int bs)] [(.int (1 : Int32)), (.int (1 : Int32))])
            refine own_st (fun t_ k_ => XS.goto X206.here hx rfl (pc0 := 281) (pc' := 285) rfl (hb hby at_281) (by decide) (by decide) k_) ?_
            show own_Go p e below _ T206 (mkF m 285 #[.val (.int rN), .val (.int oN), .val (.int fg), .val (.int cb), .val (.int rl), .val (.int r0), .val (.int r1), .val (.int ol), .val (.int o0), .val (.int o1), .val (.int md), .val (.ref kr), .val (.int (1 : Int32)), .val (.ref kS), .val (.int cc), .val (.ref nb129), .val (.ref nb145), .val (.int (1 : Int32)), .val (.int bs)] [(.int (1 : Int32)), (.int (1 : Int32))])
            refine own_st (fun t_ k_ => XS.icmpNo X206.here hx rfl (hb hby at_285) rfl (by decide) k_) ?_
            show own_Go p e below _ T206 (mkF m 288 #[.val (.int rN), .val (.int oN), .val (.int fg), .val (.int cb), .val (.int rl), .val (.int r0), .val (.int r1), .val (.int ol), .val (.int o0), .val (.int o1), .val (.int md), .val (.ref kr), .val (.int (1 : Int32)), .val (.ref kS), .val (.int cc), .val (.ref nb129), .val (.ref nb145), .val (.int (1 : Int32)), .val (.int bs)] [])
            refine own_st (fun t_ k_ => XS.iconst X206.here hx rfl (hb hby at_288) k_) ?_
            show own_Go p e below _ T206 (mkF m 289 #[.val (.int rN), .val (.int oN), .val (.int fg), .val (.int cb), .val (.int rl), .val (.int r0), .val (.int r1), .val (.int ol), .val (.int o0), .val (.int o1), .val (.int md), .val (.ref kr), .val (.int (1 : Int32)), .val (.ref kS), .val (.int cc), .val (.ref nb129), .val (.ref nb145), .val (.int (1 : Int32)), .val (.int bs)] [(.int (1 : Int32))])
            refine own_st (fun t_ k_ => XS.goto X206.here hx rfl (pc0 := 289) (pc' := 293) rfl (hb hby at_289) (by decide) (by decide) k_) ?_
            show own_Go p e below _ T206 (mkF m 293 #[.val (.int rN), .val (.int oN), .val (.int fg), .val (.int cb), .val (.int rl), .val (.int r0), .val (.int r1), .val (.int ol), .val (.int o0), .val (.int o1), .val (.int md), .val (.ref kr), .val (.int (1 : Int32)), .val (.ref kS), .val (.int cc), .val (.ref nb129), .val (.ref nb145), .val (.int (1 : Int32)), .val (.int bs)] [(.int (1 : Int32))])
            refine own_retNS X206 hx hlk hZ hEL hh206 hh B164 (t := .boolean) Bd.returns (by simp) (hb hby at_293) ?_ (by decide) (by decide)
            show Q0 n0 _ T206.heap _
            rw [hh206]
            exact ⟨rfl, N206⟩
          · show own_Go p e below _ T206 (mkF m 232 #[.val (.int rN), .val (.int oN), .val (.int fg), .val (.int cb), .val (.int rl), .val (.int r0), .val (.int r1), .val (.int ol), .val (.int o0), .val (.int o1), .val (.int md), .val (.ref kr), .val (.int (1 : Int32)), .val (.ref kS), .val (.int cc), .val (.ref nb129), .val (.ref nb145), .val (.int (1 : Int32)), .unset] [(.int ol), (.int rl)])
            by_cases hc232_208 : rl = ol
            · refine own_st (fun t_ k_ => XS.icmpNo X206.here hx rfl (hb hby at_232) rfl (teq hc232_208).2 k_) ?_
              show own_Go p e below _ T206 (mkF m 235 #[.val (.int rN), .val (.int oN), .val (.int fg), .val (.int cb), .val (.int rl), .val (.int r0), .val (.int r1), .val (.int ol), .val (.int o0), .val (.int o1), .val (.int md), .val (.ref kr), .val (.int (1 : Int32)), .val (.ref kS), .val (.int cc), .val (.ref nb129), .val (.ref nb145), .val (.int (1 : Int32)), .unset] [])
              refine own_st (fun t_ k_ => XS.iload X206.here hx rfl (hb hby at_235) rfl k_) ?_
              show own_Go p e below _ T206 (mkF m 237 #[.val (.int rN), .val (.int oN), .val (.int fg), .val (.int cb), .val (.int rl), .val (.int r0), .val (.int r1), .val (.int ol), .val (.int o0), .val (.int o1), .val (.int md), .val (.ref kr), .val (.int (1 : Int32)), .val (.ref kS), .val (.int cc), .val (.ref nb129), .val (.ref nb145), .val (.int (1 : Int32)), .unset] [(.int rl)])
              refine own_st (fun t_ k_ => XS.iconst X206.here hx rfl (hb hby at_237) k_) ?_
              show own_Go p e below _ T206 (mkF m 238 #[.val (.int rN), .val (.int oN), .val (.int fg), .val (.int cb), .val (.int rl), .val (.int r0), .val (.int r1), .val (.int ol), .val (.int o0), .val (.int o1), .val (.int md), .val (.ref kr), .val (.int (1 : Int32)), .val (.ref kS), .val (.int cc), .val (.ref nb129), .val (.ref nb145), .val (.int (1 : Int32)), .unset] [(.int (1 : Int32)), (.int rl)])
              by_cases hc238_209 : rl < (1 : Int32)
              · refine own_st (fun t_ k_ => XS.icmpYes X206.here hx rfl (pc0 := 238) (pc' := 248) rfl (hb hby at_238) rfl (tlt hc238_209).1 (by decide) (by decide) k_) ?_
                show own_Go p e below _ T206 (mkF m 248 #[.val (.int rN), .val (.int oN), .val (.int fg), .val (.int cb), .val (.int rl), .val (.int r0), .val (.int r1), .val (.int ol), .val (.int o0), .val (.int o1), .val (.int md), .val (.ref kr), .val (.int (1 : Int32)), .val (.ref kS), .val (.int cc), .val (.ref nb129), .val (.ref nb145), .val (.int (1 : Int32)), .unset] [])
                refine own_st (fun t_ k_ => XS.iload X206.here hx rfl (hb hby at_248) rfl k_) ?_
                show own_Go p e below _ T206 (mkF m 250 #[.val (.int rN), .val (.int oN), .val (.int fg), .val (.int cb), .val (.int rl), .val (.int r0), .val (.int r1), .val (.int ol), .val (.int o0), .val (.int o1), .val (.int md), .val (.ref kr), .val (.int (1 : Int32)), .val (.ref kS), .val (.int cc), .val (.ref nb129), .val (.ref nb145), .val (.int (1 : Int32)), .unset] [(.int rl)])
                refine own_st (fun t_ k_ => XS.iconst X206.here hx rfl (hb hby at_250) k_) ?_
                show own_Go p e below _ T206 (mkF m 251 #[.val (.int rN), .val (.int oN), .val (.int fg), .val (.int cb), .val (.int rl), .val (.int r0), .val (.int r1), .val (.int ol), .val (.int o0), .val (.int o1), .val (.int md), .val (.ref kr), .val (.int (1 : Int32)), .val (.ref kS), .val (.int cc), .val (.ref nb129), .val (.ref nb145), .val (.int (1 : Int32)), .unset] [(.int (2 : Int32)), (.int rl)])
                by_cases hc251_210 : rl < (2 : Int32)
                · refine own_st (fun t_ k_ => XS.icmpYes X206.here hx rfl (pc0 := 251) (pc' := 261) rfl (hb hby at_251) rfl (tlt hc251_210).1 (by decide) (by decide) k_) ?_
                  show own_Go p e below _ T206 (mkF m 261 #[.val (.int rN), .val (.int oN), .val (.int fg), .val (.int cb), .val (.int rl), .val (.int r0), .val (.int r1), .val (.int ol), .val (.int o0), .val (.int o1), .val (.int md), .val (.ref kr), .val (.int (1 : Int32)), .val (.ref kS), .val (.int cc), .val (.ref nb129), .val (.ref nb145), .val (.int (1 : Int32)), .unset] [])
                  refine own_st (fun t_ k_ => XS.iconst X206.here hx rfl (hb hby at_261) k_) ?_
                  show own_Go p e below _ T206 (mkF m 262 #[.val (.int rN), .val (.int oN), .val (.int fg), .val (.int cb), .val (.int rl), .val (.int r0), .val (.int r1), .val (.int ol), .val (.int o0), .val (.int o1), .val (.int md), .val (.ref kr), .val (.int (1 : Int32)), .val (.ref kS), .val (.int cc), .val (.ref nb129), .val (.ref nb145), .val (.int (1 : Int32)), .unset] [(.int (1 : Int32))])
                  refine own_st (fun t_ k_ => XS.goto X206.here hx rfl (pc0 := 262) (pc' := 266) rfl (hb hby at_262) (by decide) (by decide) k_) ?_
                  show own_Go p e below _ T206 (mkF m 266 #[.val (.int rN), .val (.int oN), .val (.int fg), .val (.int cb), .val (.int rl), .val (.int r0), .val (.int r1), .val (.int ol), .val (.int o0), .val (.int o1), .val (.int md), .val (.ref kr), .val (.int (1 : Int32)), .val (.ref kS), .val (.int cc), .val (.ref nb129), .val (.ref nb145), .val (.int (1 : Int32)), .unset] [(.int (1 : Int32))])
                  exact J_bs (1 : Int32) (Or.inr rfl)
                · refine own_st (fun t_ k_ => XS.icmpNo X206.here hx rfl (hb hby at_251) rfl (flt hc251_210).1 k_) ?_
                  show own_Go p e below _ T206 (mkF m 254 #[.val (.int rN), .val (.int oN), .val (.int fg), .val (.int cb), .val (.int rl), .val (.int r0), .val (.int r1), .val (.int ol), .val (.int o0), .val (.int o1), .val (.int md), .val (.ref kr), .val (.int (1 : Int32)), .val (.ref kS), .val (.int cc), .val (.ref nb129), .val (.ref nb145), .val (.int (1 : Int32)), .unset] [])
                  refine own_st (fun t_ k_ => XS.iload X206.here hx rfl (hb hby at_254) rfl k_) ?_
                  show own_Go p e below _ T206 (mkF m 256 #[.val (.int rN), .val (.int oN), .val (.int fg), .val (.int cb), .val (.int rl), .val (.int r0), .val (.int r1), .val (.int ol), .val (.int o0), .val (.int o1), .val (.int md), .val (.ref kr), .val (.int (1 : Int32)), .val (.ref kS), .val (.int cc), .val (.ref nb129), .val (.ref nb145), .val (.int (1 : Int32)), .unset] [(.int r1)])
                  refine own_st (fun t_ k_ => XS.iload X206.here hx rfl (hb hby at_256) rfl k_) ?_
                  show own_Go p e below _ T206 (mkF m 258 #[.val (.int rN), .val (.int oN), .val (.int fg), .val (.int cb), .val (.int rl), .val (.int r0), .val (.int r1), .val (.int ol), .val (.int o0), .val (.int o1), .val (.int md), .val (.ref kr), .val (.int (1 : Int32)), .val (.ref kS), .val (.int cc), .val (.ref nb129), .val (.ref nb145), .val (.int (1 : Int32)), .unset] [(.int o1), (.int r1)])
                  by_cases hc258_211 : r1 = o1
                  · refine own_st (fun t_ k_ => XS.icmpNo X206.here hx rfl (hb hby at_258) rfl (teq hc258_211).2 k_) ?_
                    show own_Go p e below _ T206 (mkF m 261 #[.val (.int rN), .val (.int oN), .val (.int fg), .val (.int cb), .val (.int rl), .val (.int r0), .val (.int r1), .val (.int ol), .val (.int o0), .val (.int o1), .val (.int md), .val (.ref kr), .val (.int (1 : Int32)), .val (.ref kS), .val (.int cc), .val (.ref nb129), .val (.ref nb145), .val (.int (1 : Int32)), .unset] [])
                    refine own_st (fun t_ k_ => XS.iconst X206.here hx rfl (hb hby at_261) k_) ?_
                    show own_Go p e below _ T206 (mkF m 262 #[.val (.int rN), .val (.int oN), .val (.int fg), .val (.int cb), .val (.int rl), .val (.int r0), .val (.int r1), .val (.int ol), .val (.int o0), .val (.int o1), .val (.int md), .val (.ref kr), .val (.int (1 : Int32)), .val (.ref kS), .val (.int cc), .val (.ref nb129), .val (.ref nb145), .val (.int (1 : Int32)), .unset] [(.int (1 : Int32))])
                    refine own_st (fun t_ k_ => XS.goto X206.here hx rfl (pc0 := 262) (pc' := 266) rfl (hb hby at_262) (by decide) (by decide) k_) ?_
                    show own_Go p e below _ T206 (mkF m 266 #[.val (.int rN), .val (.int oN), .val (.int fg), .val (.int cb), .val (.int rl), .val (.int r0), .val (.int r1), .val (.int ol), .val (.int o0), .val (.int o1), .val (.int md), .val (.ref kr), .val (.int (1 : Int32)), .val (.ref kS), .val (.int cc), .val (.ref nb129), .val (.ref nb145), .val (.int (1 : Int32)), .unset] [(.int (1 : Int32))])
                    exact J_bs (1 : Int32) (Or.inr rfl)
                  · refine own_st (fun t_ k_ => XS.icmpYes X206.here hx rfl (pc0 := 258) (pc' := 265) rfl (hb hby at_258) rfl (feq hc258_211).2 (by decide) (by decide) k_) ?_
                    show own_Go p e below _ T206 (mkF m 265 #[.val (.int rN), .val (.int oN), .val (.int fg), .val (.int cb), .val (.int rl), .val (.int r0), .val (.int r1), .val (.int ol), .val (.int o0), .val (.int o1), .val (.int md), .val (.ref kr), .val (.int (1 : Int32)), .val (.ref kS), .val (.int cc), .val (.ref nb129), .val (.ref nb145), .val (.int (1 : Int32)), .unset] [])
                    refine own_st (fun t_ k_ => XS.iconst X206.here hx rfl (hb hby at_265) k_) ?_
                    show own_Go p e below _ T206 (mkF m 266 #[.val (.int rN), .val (.int oN), .val (.int fg), .val (.int cb), .val (.int rl), .val (.int r0), .val (.int r1), .val (.int ol), .val (.int o0), .val (.int o1), .val (.int md), .val (.ref kr), .val (.int (1 : Int32)), .val (.ref kS), .val (.int cc), .val (.ref nb129), .val (.ref nb145), .val (.int (1 : Int32)), .unset] [(.int (0 : Int32))])
                    exact J_bs (0 : Int32) (Or.inl rfl)
              · refine own_st (fun t_ k_ => XS.icmpNo X206.here hx rfl (hb hby at_238) rfl (flt hc238_209).1 k_) ?_
                show own_Go p e below _ T206 (mkF m 241 #[.val (.int rN), .val (.int oN), .val (.int fg), .val (.int cb), .val (.int rl), .val (.int r0), .val (.int r1), .val (.int ol), .val (.int o0), .val (.int o1), .val (.int md), .val (.ref kr), .val (.int (1 : Int32)), .val (.ref kS), .val (.int cc), .val (.ref nb129), .val (.ref nb145), .val (.int (1 : Int32)), .unset] [])
                refine own_st (fun t_ k_ => XS.iload X206.here hx rfl (hb hby at_241) rfl k_) ?_
                show own_Go p e below _ T206 (mkF m 243 #[.val (.int rN), .val (.int oN), .val (.int fg), .val (.int cb), .val (.int rl), .val (.int r0), .val (.int r1), .val (.int ol), .val (.int o0), .val (.int o1), .val (.int md), .val (.ref kr), .val (.int (1 : Int32)), .val (.ref kS), .val (.int cc), .val (.ref nb129), .val (.ref nb145), .val (.int (1 : Int32)), .unset] [(.int r0)])
                refine own_st (fun t_ k_ => XS.iload X206.here hx rfl (hb hby at_243) rfl k_) ?_
                show own_Go p e below _ T206 (mkF m 245 #[.val (.int rN), .val (.int oN), .val (.int fg), .val (.int cb), .val (.int rl), .val (.int r0), .val (.int r1), .val (.int ol), .val (.int o0), .val (.int o1), .val (.int md), .val (.ref kr), .val (.int (1 : Int32)), .val (.ref kS), .val (.int cc), .val (.ref nb129), .val (.ref nb145), .val (.int (1 : Int32)), .unset] [(.int o0), (.int r0)])
                by_cases hc245_212 : r0 = o0
                · refine own_st (fun t_ k_ => XS.icmpNo X206.here hx rfl (hb hby at_245) rfl (teq hc245_212).2 k_) ?_
                  show own_Go p e below _ T206 (mkF m 248 #[.val (.int rN), .val (.int oN), .val (.int fg), .val (.int cb), .val (.int rl), .val (.int r0), .val (.int r1), .val (.int ol), .val (.int o0), .val (.int o1), .val (.int md), .val (.ref kr), .val (.int (1 : Int32)), .val (.ref kS), .val (.int cc), .val (.ref nb129), .val (.ref nb145), .val (.int (1 : Int32)), .unset] [])
                  refine own_st (fun t_ k_ => XS.iload X206.here hx rfl (hb hby at_248) rfl k_) ?_
                  show own_Go p e below _ T206 (mkF m 250 #[.val (.int rN), .val (.int oN), .val (.int fg), .val (.int cb), .val (.int rl), .val (.int r0), .val (.int r1), .val (.int ol), .val (.int o0), .val (.int o1), .val (.int md), .val (.ref kr), .val (.int (1 : Int32)), .val (.ref kS), .val (.int cc), .val (.ref nb129), .val (.ref nb145), .val (.int (1 : Int32)), .unset] [(.int rl)])
                  refine own_st (fun t_ k_ => XS.iconst X206.here hx rfl (hb hby at_250) k_) ?_
                  show own_Go p e below _ T206 (mkF m 251 #[.val (.int rN), .val (.int oN), .val (.int fg), .val (.int cb), .val (.int rl), .val (.int r0), .val (.int r1), .val (.int ol), .val (.int o0), .val (.int o1), .val (.int md), .val (.ref kr), .val (.int (1 : Int32)), .val (.ref kS), .val (.int cc), .val (.ref nb129), .val (.ref nb145), .val (.int (1 : Int32)), .unset] [(.int (2 : Int32)), (.int rl)])
                  by_cases hc251_213 : rl < (2 : Int32)
                  · refine own_st (fun t_ k_ => XS.icmpYes X206.here hx rfl (pc0 := 251) (pc' := 261) rfl (hb hby at_251) rfl (tlt hc251_213).1 (by decide) (by decide) k_) ?_
                    show own_Go p e below _ T206 (mkF m 261 #[.val (.int rN), .val (.int oN), .val (.int fg), .val (.int cb), .val (.int rl), .val (.int r0), .val (.int r1), .val (.int ol), .val (.int o0), .val (.int o1), .val (.int md), .val (.ref kr), .val (.int (1 : Int32)), .val (.ref kS), .val (.int cc), .val (.ref nb129), .val (.ref nb145), .val (.int (1 : Int32)), .unset] [])
                    refine own_st (fun t_ k_ => XS.iconst X206.here hx rfl (hb hby at_261) k_) ?_
                    show own_Go p e below _ T206 (mkF m 262 #[.val (.int rN), .val (.int oN), .val (.int fg), .val (.int cb), .val (.int rl), .val (.int r0), .val (.int r1), .val (.int ol), .val (.int o0), .val (.int o1), .val (.int md), .val (.ref kr), .val (.int (1 : Int32)), .val (.ref kS), .val (.int cc), .val (.ref nb129), .val (.ref nb145), .val (.int (1 : Int32)), .unset] [(.int (1 : Int32))])
                    refine own_st (fun t_ k_ => XS.goto X206.here hx rfl (pc0 := 262) (pc' := 266) rfl (hb hby at_262) (by decide) (by decide) k_) ?_
                    show own_Go p e below _ T206 (mkF m 266 #[.val (.int rN), .val (.int oN), .val (.int fg), .val (.int cb), .val (.int rl), .val (.int r0), .val (.int r1), .val (.int ol), .val (.int o0), .val (.int o1), .val (.int md), .val (.ref kr), .val (.int (1 : Int32)), .val (.ref kS), .val (.int cc), .val (.ref nb129), .val (.ref nb145), .val (.int (1 : Int32)), .unset] [(.int (1 : Int32))])
                    exact J_bs (1 : Int32) (Or.inr rfl)
                  · refine own_st (fun t_ k_ => XS.icmpNo X206.here hx rfl (hb hby at_251) rfl (flt hc251_213).1 k_) ?_
                    show own_Go p e below _ T206 (mkF m 254 #[.val (.int rN), .val (.int oN), .val (.int fg), .val (.int cb), .val (.int rl), .val (.int r0), .val (.int r1), .val (.int ol), .val (.int o0), .val (.int o1), .val (.int md), .val (.ref kr), .val (.int (1 : Int32)), .val (.ref kS), .val (.int cc), .val (.ref nb129), .val (.ref nb145), .val (.int (1 : Int32)), .unset] [])
                    refine own_st (fun t_ k_ => XS.iload X206.here hx rfl (hb hby at_254) rfl k_) ?_
                    show own_Go p e below _ T206 (mkF m 256 #[.val (.int rN), .val (.int oN), .val (.int fg), .val (.int cb), .val (.int rl), .val (.int r0), .val (.int r1), .val (.int ol), .val (.int o0), .val (.int o1), .val (.int md), .val (.ref kr), .val (.int (1 : Int32)), .val (.ref kS), .val (.int cc), .val (.ref nb129), .val (.ref nb145), .val (.int (1 : Int32)), .unset] [(.int r1)])
                    refine own_st (fun t_ k_ => XS.iload X206.here hx rfl (hb hby at_256) rfl k_) ?_
                    show own_Go p e below _ T206 (mkF m 258 #[.val (.int rN), .val (.int oN), .val (.int fg), .val (.int cb), .val (.int rl), .val (.int r0), .val (.int r1), .val (.int ol), .val (.int o0), .val (.int o1), .val (.int md), .val (.ref kr), .val (.int (1 : Int32)), .val (.ref kS), .val (.int cc), .val (.ref nb129), .val (.ref nb145), .val (.int (1 : Int32)), .unset] [(.int o1), (.int r1)])
                    by_cases hc258_214 : r1 = o1
                    · refine own_st (fun t_ k_ => XS.icmpNo X206.here hx rfl (hb hby at_258) rfl (teq hc258_214).2 k_) ?_
                      show own_Go p e below _ T206 (mkF m 261 #[.val (.int rN), .val (.int oN), .val (.int fg), .val (.int cb), .val (.int rl), .val (.int r0), .val (.int r1), .val (.int ol), .val (.int o0), .val (.int o1), .val (.int md), .val (.ref kr), .val (.int (1 : Int32)), .val (.ref kS), .val (.int cc), .val (.ref nb129), .val (.ref nb145), .val (.int (1 : Int32)), .unset] [])
                      refine own_st (fun t_ k_ => XS.iconst X206.here hx rfl (hb hby at_261) k_) ?_
                      show own_Go p e below _ T206 (mkF m 262 #[.val (.int rN), .val (.int oN), .val (.int fg), .val (.int cb), .val (.int rl), .val (.int r0), .val (.int r1), .val (.int ol), .val (.int o0), .val (.int o1), .val (.int md), .val (.ref kr), .val (.int (1 : Int32)), .val (.ref kS), .val (.int cc), .val (.ref nb129), .val (.ref nb145), .val (.int (1 : Int32)), .unset] [(.int (1 : Int32))])
                      refine own_st (fun t_ k_ => XS.goto X206.here hx rfl (pc0 := 262) (pc' := 266) rfl (hb hby at_262) (by decide) (by decide) k_) ?_
                      show own_Go p e below _ T206 (mkF m 266 #[.val (.int rN), .val (.int oN), .val (.int fg), .val (.int cb), .val (.int rl), .val (.int r0), .val (.int r1), .val (.int ol), .val (.int o0), .val (.int o1), .val (.int md), .val (.ref kr), .val (.int (1 : Int32)), .val (.ref kS), .val (.int cc), .val (.ref nb129), .val (.ref nb145), .val (.int (1 : Int32)), .unset] [(.int (1 : Int32))])
                      exact J_bs (1 : Int32) (Or.inr rfl)
                    · refine own_st (fun t_ k_ => XS.icmpYes X206.here hx rfl (pc0 := 258) (pc' := 265) rfl (hb hby at_258) rfl (feq hc258_214).2 (by decide) (by decide) k_) ?_
                      show own_Go p e below _ T206 (mkF m 265 #[.val (.int rN), .val (.int oN), .val (.int fg), .val (.int cb), .val (.int rl), .val (.int r0), .val (.int r1), .val (.int ol), .val (.int o0), .val (.int o1), .val (.int md), .val (.ref kr), .val (.int (1 : Int32)), .val (.ref kS), .val (.int cc), .val (.ref nb129), .val (.ref nb145), .val (.int (1 : Int32)), .unset] [])
                      refine own_st (fun t_ k_ => XS.iconst X206.here hx rfl (hb hby at_265) k_) ?_
                      show own_Go p e below _ T206 (mkF m 266 #[.val (.int rN), .val (.int oN), .val (.int fg), .val (.int cb), .val (.int rl), .val (.int r0), .val (.int r1), .val (.int ol), .val (.int o0), .val (.int o1), .val (.int md), .val (.ref kr), .val (.int (1 : Int32)), .val (.ref kS), .val (.int cc), .val (.ref nb129), .val (.ref nb145), .val (.int (1 : Int32)), .unset] [(.int (0 : Int32))])
                      exact J_bs (0 : Int32) (Or.inl rfl)
                · refine own_st (fun t_ k_ => XS.icmpYes X206.here hx rfl (pc0 := 245) (pc' := 265) rfl (hb hby at_245) rfl (feq hc245_212).2 (by decide) (by decide) k_) ?_
                  show own_Go p e below _ T206 (mkF m 265 #[.val (.int rN), .val (.int oN), .val (.int fg), .val (.int cb), .val (.int rl), .val (.int r0), .val (.int r1), .val (.int ol), .val (.int o0), .val (.int o1), .val (.int md), .val (.ref kr), .val (.int (1 : Int32)), .val (.ref kS), .val (.int cc), .val (.ref nb129), .val (.ref nb145), .val (.int (1 : Int32)), .unset] [])
                  refine own_st (fun t_ k_ => XS.iconst X206.here hx rfl (hb hby at_265) k_) ?_
                  show own_Go p e below _ T206 (mkF m 266 #[.val (.int rN), .val (.int oN), .val (.int fg), .val (.int cb), .val (.int rl), .val (.int r0), .val (.int r1), .val (.int ol), .val (.int o0), .val (.int o1), .val (.int md), .val (.ref kr), .val (.int (1 : Int32)), .val (.ref kS), .val (.int cc), .val (.ref nb129), .val (.ref nb145), .val (.int (1 : Int32)), .unset] [(.int (0 : Int32))])
                  exact J_bs (0 : Int32) (Or.inl rfl)
            · refine own_st (fun t_ k_ => XS.icmpYes X206.here hx rfl (pc0 := 232) (pc' := 265) rfl (hb hby at_232) rfl (feq hc232_208).2 (by decide) (by decide) k_) ?_
              show own_Go p e below _ T206 (mkF m 265 #[.val (.int rN), .val (.int oN), .val (.int fg), .val (.int cb), .val (.int rl), .val (.int r0), .val (.int r1), .val (.int ol), .val (.int o0), .val (.int o1), .val (.int md), .val (.ref kr), .val (.int (1 : Int32)), .val (.ref kS), .val (.int cc), .val (.ref nb129), .val (.ref nb145), .val (.int (1 : Int32)), .unset] [])
              refine own_st (fun t_ k_ => XS.iconst X206.here hx rfl (hb hby at_265) k_) ?_
              show own_Go p e below _ T206 (mkF m 266 #[.val (.int rN), .val (.int oN), .val (.int fg), .val (.int cb), .val (.int rl), .val (.int r0), .val (.int r1), .val (.int ol), .val (.int o0), .val (.int o1), .val (.int md), .val (.ref kr), .val (.int (1 : Int32)), .val (.ref kS), .val (.int cc), .val (.ref nb129), .val (.ref nb145), .val (.int (1 : Int32)), .unset] [(.int (0 : Int32))])
              exact J_bs (0 : Int32) (Or.inl rfl)
      · show own_Go p e below _ T4 (mkF m 135 #[.val (.int rN), .val (.int oN), .val (.int fg), .val (.int cb), .val (.int rl), .val (.int r0), .val (.int r1), .val (.int ol), .val (.int o0), .val (.int o1), .val (.int md), .val (.ref kr), .unset, .unset, .unset, .unset, .unset, .unset, .unset] [(.int (fg &&& (2 : Int32)))])
        by_cases hc135_8 : (fg &&& (2 : Int32)) = (0 : Int32)
        · refine own_st (fun t_ k_ => XS.ifYes X4.here hx rfl (pc0 := 135) (pc' := 142) rfl (hb hby at_135) rfl ((if0 _ _).trans (teq hc135_8).1) (by decide) (by decide) k_) ?_
          show own_Go p e below _ T4 (mkF m 142 #[.val (.int rN), .val (.int oN), .val (.int fg), .val (.int cb), .val (.int rl), .val (.int r0), .val (.int r1), .val (.int ol), .val (.int o0), .val (.int o1), .val (.int md), .val (.ref kr), .unset, .unset, .unset, .unset, .unset, .unset, .unset] [])
          refine own_st (fun t_ k_ => XS.iconst X4.here hx rfl (hb hby at_142) k_) ?_
          show own_Go p e below _ T4 (mkF m 143 #[.val (.int rN), .val (.int oN), .val (.int fg), .val (.int cb), .val (.int rl), .val (.int r0), .val (.int r1), .val (.int ol), .val (.int o0), .val (.int o1), .val (.int md), .val (.ref kr), .unset, .unset, .unset, .unset, .unset, .unset, .unset] [(.int (0 : Int32))])
          exact J_b12 (0 : Int32) (Or.inl rfl)
        · refine own_st (fun t_ k_ => XS.ifNo X4.here hx rfl (hb hby at_135) rfl ((if0 _ _).trans (feq hc135_8).1) k_) ?_
          show own_Go p e below _ T4 (mkF m 138 #[.val (.int rN), .val (.int oN), .val (.int fg), .val (.int cb), .val (.int rl), .val (.int r0), .val (.int r1), .val (.int ol), .val (.int o0), .val (.int o1), .val (.int md), .val (.ref kr), .unset, .unset, .unset, .unset, .unset, .unset, .unset] [])
          refine own_st (fun t_ k_ => XS.iconst X4.here hx rfl (hb hby at_138) k_) ?_
          show own_Go p e below _ T4 (mkF m 139 #[.val (.int rN), .val (.int oN), .val (.int fg), .val (.int cb), .val (.int rl), .val (.int r0), .val (.int r1), .val (.int ol), .val (.int o0), .val (.int o1), .val (.int md), .val (.ref kr), .unset, .unset, .unset, .unset, .unset, .unset, .unset] [(.int (1 : Int32))])
          refine own_st (fun t_ k_ => XS.goto X4.here hx rfl (pc0 := 139) (pc' := 143) rfl (hb hby at_139) (by decide) (by decide) k_) ?_
          show own_Go p e below _ T4 (mkF m 143 #[.val (.int rN), .val (.int oN), .val (.int fg), .val (.int cb), .val (.int rl), .val (.int r0), .val (.int r1), .val (.int ol), .val (.int o0), .val (.int o1), .val (.int md), .val (.ref kr), .unset, .unset, .unset, .unset, .unset, .unset, .unset] [(.int (1 : Int32))])
          exact J_b12 (1 : Int32) (Or.inr rfl)
    · show own_Go p e below _ s₁ (mkF m 118 #[.val (.int rN), .val (.int oN), .val (.int fg), .val (.int cb), .val (.int rl), .val (.int r0), .val (.int r1), .val (.int ol), .val (.int o0), .val (.int o1), .val (.int md), .unset, .unset, .unset, .unset, .unset, .unset, .unset, .unset] [(.int (fg &&& (1 : Int32)))])
      by_cases hc118_5 : (fg &&& (1 : Int32)) = (0 : Int32)
      · refine own_st (fun t_ k_ => XS.ifYes X0.here hx rfl (pc0 := 118) (pc' := 127) rfl (hb hby at_118) rfl ((if0 _ _).trans (teq hc118_5).1) (by decide) (by decide) k_) ?_
        show own_Go p e below _ s₁ (mkF m 127 #[.val (.int rN), .val (.int oN), .val (.int fg), .val (.int cb), .val (.int rl), .val (.int r0), .val (.int r1), .val (.int ol), .val (.int o0), .val (.int o1), .val (.int md), .unset, .unset, .unset, .unset, .unset, .unset, .unset, .unset] [])
        obtain ⟨T6, X6, e6, st6⟩ := getS2 X0 hx hZ hown (host := "") (Or.inl (hw _ (List.mem_of_getElem? (i := 0) rfl))) Via.refl e0 (Sta.ext O0.2 SU) (g := (mkF m 127 #[.val (.int rN), .val (.int oN), .val (.int fg), .val (.int cb), .val (.int rl), .val (.int r0), .val (.int r1), .val (.int ol), .val (.int o0), .val (.int o1), .val (.int md), .unset, .unset, .unset, .unset, .unset, .unset, .unset, .unset] [])) rfl (hb hby at_127)
        refine own_st st6 ?_
        show own_Go p e below _ T6 (mkF m 130 #[.val (.int rN), .val (.int oN), .val (.int fg), .val (.int cb), .val (.int rl), .val (.int r0), .val (.int r1), .val (.int ol), .val (.int o0), .val (.int o1), .val (.int md), .unset, .unset, .unset, .unset, .unset, .unset, .unset, .unset] [(.ref kU)])
        exact J_kr kU _ trivial X6 e6
      · refine own_st (fun t_ k_ => XS.ifNo X0.here hx rfl (hb hby at_118) rfl ((if0 _ _).trans (feq hc118_5).1) k_) ?_
        show own_Go p e below _ s₁ (mkF m 121 #[.val (.int rN), .val (.int oN), .val (.int fg), .val (.int cb), .val (.int rl), .val (.int r0), .val (.int r1), .val (.int ol), .val (.int o0), .val (.int o1), .val (.int md), .unset, .unset, .unset, .unset, .unset, .unset, .unset, .unset] [])
        obtain ⟨T7, X7, e7, st7⟩ := getS2 X0 hx hZ hown (host := "") (Or.inl (hw _ (List.mem_of_getElem? (i := 3) rfl))) Via.refl e0 (Sta.ext O0.2 SE) (g := (mkF m 121 #[.val (.int rN), .val (.int oN), .val (.int fg), .val (.int cb), .val (.int rl), .val (.int r0), .val (.int r1), .val (.int ol), .val (.int o0), .val (.int o1), .val (.int md), .unset, .unset, .unset, .unset, .unset, .unset, .unset, .unset] [])) rfl (hb hby at_121)
        refine own_st st7 ?_
        show own_Go p e below _ T7 (mkF m 124 #[.val (.int rN), .val (.int oN), .val (.int fg), .val (.int cb), .val (.int rl), .val (.int r0), .val (.int r1), .val (.int ol), .val (.int o0), .val (.int o1), .val (.int md), .unset, .unset, .unset, .unset, .unset, .unset, .unset, .unset] [(.ref kS)])
        refine own_st (fun t_ k_ => XS.goto X7.here hx rfl (pc0 := 124) (pc' := 130) rfl (hb hby at_124) (by decide) (by decide) k_) ?_
        show own_Go p e below _ T7 (mkF m 130 #[.val (.int rN), .val (.int oN), .val (.int fg), .val (.int cb), .val (.int rl), .val (.int r0), .val (.int r1), .val (.int ol), .val (.int o0), .val (.int o1), .val (.int md), .unset, .unset, .unset, .unset, .unset, .unset, .unset, .unset] [(.ref kS)])
        exact J_kr kS _ trivial X7 e7
  · show own_Go p e below _ s₁ (mkF m 66 #[.val (.int rN), .val (.int oN), .val (.int fg), .val (.int cb), .val (.int rl), .val (.int r0), .val (.int r1), .val (.int pl), .val (.int p0), .val (.int p1), .val (.int md), .unset, .unset, .unset, .unset, .unset, .unset, .unset, .unset] [(.int (1 : Int32)), (.int md)])
    by_cases hc66_1 : md = (1 : Int32)
    · refine own_st (fun t_ k_ => XS.icmpNo X0.here hx rfl (hb hby at_66) rfl (teq hc66_1).2 k_) ?_
      show own_Go p e below _ s₁ (mkF m 69 #[.val (.int rN), .val (.int oN), .val (.int fg), .val (.int cb), .val (.int rl), .val (.int r0), .val (.int r1), .val (.int pl), .val (.int p0), .val (.int p1), .val (.int md), .unset, .unset, .unset, .unset, .unset, .unset, .unset, .unset] [])
      refine own_st (fun t_ k_ => XS.iload X0.here hx rfl (hb hby at_69) rfl k_) ?_
      show own_Go p e below _ s₁ (mkF m 71 #[.val (.int rN), .val (.int oN), .val (.int fg), .val (.int cb), .val (.int rl), .val (.int r0), .val (.int r1), .val (.int pl), .val (.int p0), .val (.int p1), .val (.int md), .unset, .unset, .unset, .unset, .unset, .unset, .unset, .unset] [(.int rl)])
      refine own_st (fun t_ k_ => XS.istore X0.here hx rfl (hb hby at_71) rfl (l' := #[.val (.int rN), .val (.int oN), .val (.int fg), .val (.int cb), .val (.int rl), .val (.int r0), .val (.int r1), .val (.int rl), .val (.int p0), .val (.int p1), .val (.int md), .unset, .unset, .unset, .unset, .unset, .unset, .unset, .unset]) rfl k_) ?_
      show own_Go p e below _ s₁ (mkF m 73 #[.val (.int rN), .val (.int oN), .val (.int fg), .val (.int cb), .val (.int rl), .val (.int r0), .val (.int r1), .val (.int rl), .val (.int p0), .val (.int p1), .val (.int md), .unset, .unset, .unset, .unset, .unset, .unset, .unset, .unset] [])
      refine own_st (fun t_ k_ => XS.iload X0.here hx rfl (hb hby at_73) rfl k_) ?_
      show own_Go p e below _ s₁ (mkF m 75 #[.val (.int rN), .val (.int oN), .val (.int fg), .val (.int cb), .val (.int rl), .val (.int r0), .val (.int r1), .val (.int rl), .val (.int p0), .val (.int p1), .val (.int md), .unset, .unset, .unset, .unset, .unset, .unset, .unset, .unset] [(.int r0)])
      refine own_st (fun t_ k_ => XS.istore X0.here hx rfl (hb hby at_75) rfl (l' := #[.val (.int rN), .val (.int oN), .val (.int fg), .val (.int cb), .val (.int rl), .val (.int r0), .val (.int r1), .val (.int rl), .val (.int r0), .val (.int p1), .val (.int md), .unset, .unset, .unset, .unset, .unset, .unset, .unset, .unset]) rfl k_) ?_
      show own_Go p e below _ s₁ (mkF m 77 #[.val (.int rN), .val (.int oN), .val (.int fg), .val (.int cb), .val (.int rl), .val (.int r0), .val (.int r1), .val (.int rl), .val (.int r0), .val (.int p1), .val (.int md), .unset, .unset, .unset, .unset, .unset, .unset, .unset, .unset] [])
      refine own_st (fun t_ k_ => XS.iload X0.here hx rfl (hb hby at_77) rfl k_) ?_
      show own_Go p e below _ s₁ (mkF m 79 #[.val (.int rN), .val (.int oN), .val (.int fg), .val (.int cb), .val (.int rl), .val (.int r0), .val (.int r1), .val (.int rl), .val (.int r0), .val (.int p1), .val (.int md), .unset, .unset, .unset, .unset, .unset, .unset, .unset, .unset] [(.int r1)])
      refine own_st (fun t_ k_ => XS.istore X0.here hx rfl (hb hby at_79) rfl (l' := #[.val (.int rN), .val (.int oN), .val (.int fg), .val (.int cb), .val (.int rl), .val (.int r0), .val (.int r1), .val (.int rl), .val (.int r0), .val (.int r1), .val (.int md), .unset, .unset, .unset, .unset, .unset, .unset, .unset, .unset]) rfl k_) ?_
      show own_Go p e below _ s₁ (mkF m 81 #[.val (.int rN), .val (.int oN), .val (.int fg), .val (.int cb), .val (.int rl), .val (.int r0), .val (.int r1), .val (.int rl), .val (.int r0), .val (.int r1), .val (.int md), .unset, .unset, .unset, .unset, .unset, .unset, .unset, .unset] [])
      refine own_st (fun t_ k_ => XS.goto X0.here hx rfl (pc0 := 81) (pc' := 115) rfl (hb hby at_81) (by decide) (by decide) k_) ?_
      show own_Go p e below _ s₁ (mkF m 115 #[.val (.int rN), .val (.int oN), .val (.int fg), .val (.int cb), .val (.int rl), .val (.int r0), .val (.int r1), .val (.int rl), .val (.int r0), .val (.int r1), .val (.int md), .unset, .unset, .unset, .unset, .unset, .unset, .unset, .unset] [])
      exact Jm (rl, r0, r1) ⟨d_rl, d_r0, d_r1⟩
    · refine own_st (fun t_ k_ => XS.icmpYes X0.here hx rfl (pc0 := 66) (pc' := 84) rfl (hb hby at_66) rfl (feq hc66_1).2 (by decide) (by decide) k_) ?_
      show own_Go p e below _ s₁ (mkF m 84 #[.val (.int rN), .val (.int oN), .val (.int fg), .val (.int cb), .val (.int rl), .val (.int r0), .val (.int r1), .val (.int pl), .val (.int p0), .val (.int p1), .val (.int md), .unset, .unset, .unset, .unset, .unset, .unset, .unset, .unset] [])
      refine own_st (fun t_ k_ => XS.iload X0.here hx rfl (hb hby at_84) rfl k_) ?_
      show own_Go p e below _ s₁ (mkF m 86 #[.val (.int rN), .val (.int oN), .val (.int fg), .val (.int cb), .val (.int rl), .val (.int r0), .val (.int r1), .val (.int pl), .val (.int p0), .val (.int p1), .val (.int md), .unset, .unset, .unset, .unset, .unset, .unset, .unset, .unset] [(.int md)])
      refine own_st (fun t_ k_ => XS.iconst X0.here hx rfl (hb hby at_86) k_) ?_
      show own_Go p e below _ s₁ (mkF m 87 #[.val (.int rN), .val (.int oN), .val (.int fg), .val (.int cb), .val (.int rl), .val (.int r0), .val (.int r1), .val (.int pl), .val (.int p0), .val (.int p1), .val (.int md), .unset, .unset, .unset, .unset, .unset, .unset, .unset, .unset] [(.int (2 : Int32)), (.int md)])
      by_cases hc87_2 : md = (2 : Int32)
      · refine own_st (fun t_ k_ => XS.icmpNo X0.here hx rfl (hb hby at_87) rfl (teq hc87_2).2 k_) ?_
        show own_Go p e below _ s₁ (mkF m 90 #[.val (.int rN), .val (.int oN), .val (.int fg), .val (.int cb), .val (.int rl), .val (.int r0), .val (.int r1), .val (.int pl), .val (.int p0), .val (.int p1), .val (.int md), .unset, .unset, .unset, .unset, .unset, .unset, .unset, .unset] [])
        refine own_st (fun t_ k_ => XS.iload X0.here hx rfl (hb hby at_90) rfl k_) ?_
        show own_Go p e below _ s₁ (mkF m 92 #[.val (.int rN), .val (.int oN), .val (.int fg), .val (.int cb), .val (.int rl), .val (.int r0), .val (.int r1), .val (.int pl), .val (.int p0), .val (.int p1), .val (.int md), .unset, .unset, .unset, .unset, .unset, .unset, .unset, .unset] [(.int rl)])
        refine own_st (fun t_ k_ => XS.istore X0.here hx rfl (hb hby at_92) rfl (l' := #[.val (.int rN), .val (.int oN), .val (.int fg), .val (.int cb), .val (.int rl), .val (.int r0), .val (.int r1), .val (.int rl), .val (.int p0), .val (.int p1), .val (.int md), .unset, .unset, .unset, .unset, .unset, .unset, .unset, .unset]) rfl k_) ?_
        show own_Go p e below _ s₁ (mkF m 94 #[.val (.int rN), .val (.int oN), .val (.int fg), .val (.int cb), .val (.int rl), .val (.int r0), .val (.int r1), .val (.int rl), .val (.int p0), .val (.int p1), .val (.int md), .unset, .unset, .unset, .unset, .unset, .unset, .unset, .unset] [])
        refine own_st (fun t_ k_ => XS.iload X0.here hx rfl (hb hby at_94) rfl k_) ?_
        show own_Go p e below _ s₁ (mkF m 96 #[.val (.int rN), .val (.int oN), .val (.int fg), .val (.int cb), .val (.int rl), .val (.int r0), .val (.int r1), .val (.int rl), .val (.int p0), .val (.int p1), .val (.int md), .unset, .unset, .unset, .unset, .unset, .unset, .unset, .unset] [(.int r0)])
        refine own_st (fun t_ k_ => XS.istore X0.here hx rfl (hb hby at_96) rfl (l' := #[.val (.int rN), .val (.int oN), .val (.int fg), .val (.int cb), .val (.int rl), .val (.int r0), .val (.int r1), .val (.int rl), .val (.int r0), .val (.int p1), .val (.int md), .unset, .unset, .unset, .unset, .unset, .unset, .unset, .unset]) rfl k_) ?_
        show own_Go p e below _ s₁ (mkF m 98 #[.val (.int rN), .val (.int oN), .val (.int fg), .val (.int cb), .val (.int rl), .val (.int r0), .val (.int r1), .val (.int rl), .val (.int r0), .val (.int p1), .val (.int md), .unset, .unset, .unset, .unset, .unset, .unset, .unset, .unset] [])
        refine own_st (fun t_ k_ => XS.goto X0.here hx rfl (pc0 := 98) (pc' := 115) rfl (hb hby at_98) (by decide) (by decide) k_) ?_
        show own_Go p e below _ s₁ (mkF m 115 #[.val (.int rN), .val (.int oN), .val (.int fg), .val (.int cb), .val (.int rl), .val (.int r0), .val (.int r1), .val (.int rl), .val (.int r0), .val (.int p1), .val (.int md), .unset, .unset, .unset, .unset, .unset, .unset, .unset, .unset] [])
        exact Jm (rl, r0, p1) ⟨d_rl, d_r0, d_p1⟩
      · refine own_st (fun t_ k_ => XS.icmpYes X0.here hx rfl (pc0 := 87) (pc' := 101) rfl (hb hby at_87) rfl (feq hc87_2).2 (by decide) (by decide) k_) ?_
        show own_Go p e below _ s₁ (mkF m 101 #[.val (.int rN), .val (.int oN), .val (.int fg), .val (.int cb), .val (.int rl), .val (.int r0), .val (.int r1), .val (.int pl), .val (.int p0), .val (.int p1), .val (.int md), .unset, .unset, .unset, .unset, .unset, .unset, .unset, .unset] [])
        refine own_st (fun t_ k_ => XS.iload X0.here hx rfl (hb hby at_101) rfl k_) ?_
        show own_Go p e below _ s₁ (mkF m 103 #[.val (.int rN), .val (.int oN), .val (.int fg), .val (.int cb), .val (.int rl), .val (.int r0), .val (.int r1), .val (.int pl), .val (.int p0), .val (.int p1), .val (.int md), .unset, .unset, .unset, .unset, .unset, .unset, .unset, .unset] [(.int md)])
        refine own_st (fun t_ k_ => XS.iconst X0.here hx rfl (hb hby at_103) k_) ?_
        show own_Go p e below _ s₁ (mkF m 104 #[.val (.int rN), .val (.int oN), .val (.int fg), .val (.int cb), .val (.int rl), .val (.int r0), .val (.int r1), .val (.int pl), .val (.int p0), .val (.int p1), .val (.int md), .unset, .unset, .unset, .unset, .unset, .unset, .unset, .unset] [(.int (3 : Int32)), (.int md)])
        by_cases hc104_3 : md = (3 : Int32)
        · refine own_st (fun t_ k_ => XS.icmpNo X0.here hx rfl (hb hby at_104) rfl (teq hc104_3).2 k_) ?_
          show own_Go p e below _ s₁ (mkF m 107 #[.val (.int rN), .val (.int oN), .val (.int fg), .val (.int cb), .val (.int rl), .val (.int r0), .val (.int r1), .val (.int pl), .val (.int p0), .val (.int p1), .val (.int md), .unset, .unset, .unset, .unset, .unset, .unset, .unset, .unset] [])
          refine own_st (fun t_ k_ => XS.iload X0.here hx rfl (hb hby at_107) rfl k_) ?_
          show own_Go p e below _ s₁ (mkF m 109 #[.val (.int rN), .val (.int oN), .val (.int fg), .val (.int cb), .val (.int rl), .val (.int r0), .val (.int r1), .val (.int pl), .val (.int p0), .val (.int p1), .val (.int md), .unset, .unset, .unset, .unset, .unset, .unset, .unset, .unset] [(.int r0)])
          refine own_st (fun t_ k_ => XS.istore X0.here hx rfl (hb hby at_109) rfl (l' := #[.val (.int rN), .val (.int oN), .val (.int fg), .val (.int cb), .val (.int rl), .val (.int r0), .val (.int r1), .val (.int pl), .val (.int r0), .val (.int p1), .val (.int md), .unset, .unset, .unset, .unset, .unset, .unset, .unset, .unset]) rfl k_) ?_
          show own_Go p e below _ s₁ (mkF m 111 #[.val (.int rN), .val (.int oN), .val (.int fg), .val (.int cb), .val (.int rl), .val (.int r0), .val (.int r1), .val (.int pl), .val (.int r0), .val (.int p1), .val (.int md), .unset, .unset, .unset, .unset, .unset, .unset, .unset, .unset] [])
          refine own_st (fun t_ k_ => XS.iload X0.here hx rfl (hb hby at_111) rfl k_) ?_
          show own_Go p e below _ s₁ (mkF m 113 #[.val (.int rN), .val (.int oN), .val (.int fg), .val (.int cb), .val (.int rl), .val (.int r0), .val (.int r1), .val (.int pl), .val (.int r0), .val (.int p1), .val (.int md), .unset, .unset, .unset, .unset, .unset, .unset, .unset, .unset] [(.int r1)])
          refine own_st (fun t_ k_ => XS.istore X0.here hx rfl (hb hby at_113) rfl (l' := #[.val (.int rN), .val (.int oN), .val (.int fg), .val (.int cb), .val (.int rl), .val (.int r0), .val (.int r1), .val (.int pl), .val (.int r0), .val (.int r1), .val (.int md), .unset, .unset, .unset, .unset, .unset, .unset, .unset, .unset]) rfl k_) ?_
          show own_Go p e below _ s₁ (mkF m 115 #[.val (.int rN), .val (.int oN), .val (.int fg), .val (.int cb), .val (.int rl), .val (.int r0), .val (.int r1), .val (.int pl), .val (.int r0), .val (.int r1), .val (.int md), .unset, .unset, .unset, .unset, .unset, .unset, .unset, .unset] [])
          exact Jm (pl, r0, r1) ⟨d_pl, d_r0, d_r1⟩
        · refine own_st (fun t_ k_ => XS.icmpYes X0.here hx rfl (pc0 := 104) (pc' := 115) rfl (hb hby at_104) rfl (feq hc104_3).2 (by decide) (by decide) k_) ?_
          show own_Go p e below _ s₁ (mkF m 115 #[.val (.int rN), .val (.int oN), .val (.int fg), .val (.int cb), .val (.int rl), .val (.int r0), .val (.int r1), .val (.int pl), .val (.int p0), .val (.int p1), .val (.int md), .unset, .unset, .unset, .unset, .unset, .unset, .unset, .unset] [])
          exact Jm (pl, p0, p1) ⟨d_pl, d_p0, d_p1⟩
set_option maxRecDepth 65536 in
set_option maxHeartbeats 40000000 in
theorem comes_1 {Post : Tables → Env → Array Value → State → Outcome → State → Prop} (hpost : ∀ tb e args s v u, (limb_1_1.after args s (.returned v) u = true ∧ limb_1_2.after args s (.returned v) u = true ∧ True) → ReturnedEndW s (.returned v) u (Jvm.fieldLocs frame_1_writes args s ++ Jvm.arrayLocs frame_1_arrays args s ++ Jvm.staticLocs frame_1_statics s) 40 1216 → Post tb e args s (.returned v) u) :
    ArmFor flags0 classFile x code maxLocals ret World_1 tables_1 room_1 Calls_1 rest_1 Pre_1 Post := by
  intro l hfl _ _ p e ha hc hk s m args below hf hA hF happ hP
  obtain ⟨hcalls, hrest, hpre⟩ := hP
  obtain ⟨-, -, -, hnamed, -, -, -, hat⟩ := (Spec.applies_iff hf).mp happ
  obtain ⟨hg, hn⟩ := and_e (Cond.before_iff.mp (show (Jvm.Cond.and given_1 narrow_1).before args s = true from hpre))
  obtain ⟨g0, hg0⟩ := and_e hg
  obtain ⟨g1, hg1⟩ := and_e hg0
  obtain ⟨g2, hg2⟩ := and_e hg1
  obtain ⟨g3, hg3⟩ := and_e hg2
  obtain ⟨w0, w1, w2, w3, rfl⟩ : ∃ w0 w1 w2 w3 : Value, args = #[w0, w1, w2, w3] := by
    have hs : args.size = 4 := by simpa [Cond.value, given_1] using g0
    obtain ⟨L⟩ := args
    match L, hs with
    | [w0, w1, w2, w3], _ => exact ⟨w0, w1, w2, w3, rfl⟩
  have hw := fun d (hd : d ∈ tables_1) => atoms_spec (ws := Jvm.Cond.code x code maxLocals ret :: tables_1) hat d (List.mem_cons_of_mem _ hd)
  have hfit : Fit s := fun {y c} hc i hi => by
    obtain ⟨ha, rfl⟩ := Array.getElem?_eq_some_iff.mp hc
    have q := List.all_eq_true.mp ((Array.all_eq_true_iff_forall_mem.mp hF) _ (Array.getElem_mem ha)) i (List.mem_range.mpr hi)
    simpa [Array.getElem?_eq_getElem hi] using q
  obtain ⟨hsets, hown0⟩ := atoms_of _ (rest_1_c_eq ▸ (show rest_1_c.before _ s = true from hrest))
  obtain ⟨i0, ei0⟩ := is_v g1
  obtain rfl : w0 = (.int i0) := Option.some.inj ei0
  obtain ⟨i1, ei1⟩ := is_v g2
  obtain rfl : w1 = (.int i1) := Option.some.inj ei1
  obtain ⟨i2, ei2⟩ := is_v g3
  obtain rfl : w2 = (.int i2) := Option.some.inj ei2
  obtain ⟨i3, ei3⟩ := is_v hg3
  obtain rfl : w3 = (.int i3) := Option.some.inj ei3
  obtain ⟨n0, hn0⟩ := and_e hn
  obtain ⟨a0, ev0⟩ := exa_v n0
  have Xa0 := Exa.start ev0 n0
  have Sa0 := Sta.start ev0 (Or.inr ⟨(hw _ (List.mem_of_getElem? (i := 1) rfl)), (hw _ (List.mem_of_getElem? (i := 2) rfl))⟩)
  obtain ⟨n1, hn1⟩ := and_e hn0
  obtain ⟨a1, ev1⟩ := exa_v n1
  have Xa1 := Exa.start ev1 n1
  have Sa1 := Sta.start ev1 (Or.inr ⟨(hw _ (List.mem_of_getElem? (i := 1) rfl)), (hw _ (List.mem_of_getElem? (i := 4) rfl))⟩)
  obtain ⟨n2, hn2⟩ := and_e hn1
  -- n2: ['Jvm.Cond.arrayOf', ['Jvm.Term.static', '"com/example/gentle_nudge/gentlenudge/server/ChannelOwner$1"', '"$SwitchMap$com$example$gentle_nudge$gentlenudge$server$AccountKind"', '"[I"'], 'Jvm.ClassFile.FieldType.int']
  obtain ⟨n3, hn3⟩ := and_e hn2
  -- n3: ['Jvm.Cond.eq', ['Jvm.Term.length', ['Jvm.Term.static', '"com/example/gentle_nudge/gentlenudge/server/ChannelOwner$1"', '"$SwitchMap$com$example$gentle_nudge$gentlenudge$server$AccountKind"', '"[I"']], ['Jvm.Term.int', ['2', ':', 'Int32']]]
  obtain ⟨n4, hn4⟩ := and_e hn3
  have Fa4 := Fld.start (own_feqI n4 ev1)
  obtain ⟨n5, hn5⟩ := and_e hn4
  -- n5: ['Jvm.Cond.eq', ['Jvm.Term.elem', ['Jvm.Term.static', '"com/example/gentle_nudge/gentlenudge/server/ChannelOwner$1"', '"$SwitchMap$com$example$gentle_nudge$gentlenudge$server$AccountKind"', '"[I"'], ['Jvm.Term.int', ['1', ':', 'Int32']]], ['Jvm.Term.int', ['2', ':', 'Int32']]]
  obtain ⟨n6, hn6⟩ := and_e hn5
  have Fa6 := Fld.start (own_feqI n6 ev0)
  -- hn6: ['Jvm.Cond.eq', ['Jvm.Term.elem', ['Jvm.Term.static', '"com/example/gentle_nudge/gentlenudge/server/ChannelOwner$1"', '"$SwitchMap$com$example$gentle_nudge$gentlenudge$server$AccountKind"', '"[I"'], ['Jvm.Term.int', ['0', ':', 'Int32']]], ['Jvm.Term.int', ['1', ':', 'Int32']]]
  have nCS5 := not_v (Cond.before_iff.mp (hsets _ (List.mem_of_getElem? (i := 2) rfl)))
  obtain ⟨cs11, e10⟩ := is_v (Cond.before_iff.mp (hsets _ (List.mem_of_getElem? (i := 1) rfl)))
  have S12 : Sta s s.heap "java/lang/String" "COMPACT_STRINGS" "Z" (.int cs11) := Sta.start e10 (Or.inl (hsets _ (List.mem_of_getElem? (i := 0) rfl)))
  have c17 : ¬ (cs11 = (0 : Int32)) := gotF (Cond.eq_ints e10 (Term.int_eval (0))) nCS5
  obtain ⟨v13, e14, r15⟩ := isR_v (Cond.before_iff.mp (hsets _ (List.mem_of_getElem? (i := 8) rfl)))
  have S16 : Sta s s.heap "jdk/internal/util/Preconditions" "SIOOBE_FORMATTER" "Ljava/util/function/BiFunction;" v13 := Sta.start e14 (Or.inl (hsets _ (List.mem_of_getElem? (i := 7) rfl)))
  have hCH : CHv s consts_1 s.vm s.heap := CHv.start (own_EL hw) (fun p hp => hcalls.1 p hp) (hsets _ (List.mem_of_getElem? (i := 2) rfl)) (hw _ (List.mem_of_getElem? (i := 22) rfl)) (hw _ (List.mem_of_getElem? (i := 18) rfl))
  obtain ⟨sm, evs⟩ := arr_v n2
  obtain ⟨cls, Ars⟩ := Arr.start evs n2
  obtain ⟨ql, qe⟩ := own_len n3 evs Ars
  have As := Arv.start (dv := (.int (0 : Int32))) (vs := [(.int (1 : Int32)), (.int (2 : Int32))]) hfit Ars ql qe (by decide) rfl ⟨own_elem hn6 evs Ars (by decide), own_elem n5 evs Ars (by decide), trivial⟩
  have SS := Sta.start evs (Or.inr ⟨(hw _ (List.mem_of_getElem? (i := 70) rfl)), (hw _ (List.mem_of_getElem? (i := 71) rfl))⟩)
  obtain ⟨n, o, h1, h2, h3, _, L, rfl, ⟨rfl, N⟩, -, hq⟩ := rm0 l s _ hw tables_1 i0 i1 i2 i3 cs11 a0 a1 sm cls.cls s.heap s.heap.size (Nat.le_refl _) S12 c17 (Old.start s) Sa0 Sa1 SS Xa0 Xa1 Fa6 Fa4 As p e ha hc hk s m _ below hf ((Spec.applies_iff_loose hf).mp happ).1 ⟨rfl, State.Warmed39.refl s, rfl, hCH⟩ trivial
  refine ⟨n, _, h1, h2, h3, hpost _ _ _ _ _ _ ⟨Cond.after_iff.mpr rfl, Cond.after_iff.mpr (eq_i res_at (Term.int_eval (1)) rfl), trivial⟩ ⟨hq.1, hq.2.1, hq.2.2.1, (hq.2.2.2.sift fun y hy => Or.inr (N y hy)).mono (by decide) (by decide)⟩⟩
theorem main_1_1 : Claimed_1_1 := comes_1 fun _ _ _ _ _ _ h hF => ⟨h.1, hF⟩
theorem main_1_2 : Claimed_1_2 := comes_1 fun _ _ _ _ _ _ h hF => ⟨h.2.1, hF⟩
end Jvm.Pilot.@@N@@
namespace Jvm.Pilot.@@N@@
open Jvm Jvm.ClassFile Sem Op Lib Jvm.Free Jvm.Stand Jvm.Pilot.@@N@@.Jvm.D
/-! MADE BY PROGRAM (witnessworld.py) out of the Statement's table words and the real class files: 24 classes; the members and pool entries that the words name. The judged class is class 1, her method 2. -/
namespace start1
open Jvm.ClassFile
def u (s : String) : CpInfo := .utf8 (stringToUtf16 s)
/-- a pool by its gaps: so many unusable entries, then the entry; so many at the end -/
def gap : Nat → List CpInfo → List CpInfo
  | 0, r => r
  | n + 1, r => .unusable :: gap n r
def poolList (es : List (Nat × CpInfo)) (last : Nat) : List CpInfo := es.foldr (fun e r => gap e.1 (e.2 :: r)) (gap last [])
def pool (es : List (Nat × CpInfo)) (last : Nat) : Array CpInfo := ⟨poolList es last⟩
def fileOf (pool : Array CpInfo) (this : Nat) (attrs : Array Attribute := #[]) (ms : Array MethodInfo := #[]) (fl : Nat := 33) (sup : Nat := 0) (ifs : Array Nat := #[]) (fds : Array FieldInfo := #[]) : ClassFile where
  minorVersion := 0
  majorVersion := 65
  constantPool := pool
  accessFlags := fl
  thisClass := this
  superClass := sup
  interfaces := ifs
  fields := fds
  methods := ms
  attributes := attrs
def plain (name : String) (sup : Option ClassId) : Class where
  name := name
  kind := .ordinary
  loader := none
  accessFlags := 33
  super := sup
  interfaces := #[]
  cf := none
  fields := #[]
  methods := #[]
  instanceTypes := #[]
  staticTypes := #[]
  resolved := #[]
  callSites := []
  init := .initialized
  statics := none
  mirror := none

def pool0 : Array CpInfo := pool [(5, u "<init>"), (0, u "()V"), (1, .class_ 10), (1, u "java/lang/Object")] 113

def k0c0 : Code := { maxStack := 0, maxLocals := 1, code := object_method_1_code, exceptionTable := #[], attributes := #[] }
def k0m0 : Method := { name := "<init>", desc := "()V", sig := { parameters := [], returnType := none }, accessFlags := 1, code := some k0c0 }
/-- java/lang/Object -/
def k0 : Class := { plain "java/lang/Object" none with
  accessFlags := 33
  interfaces := #[]
  cf := some (fileOf pool0 8 #[] #[{ accessFlags := 1, nameIndex := 5, descriptorIndex := 6, attributes := #[] }] 33 0 #[] #[])
  fields := #[]
  methods := #[k0m0]
  instanceTypes := #[]
  staticTypes := #[]
  resolved := Array.replicate 124 none
  statics := none }

def pool1 : Array CpInfo := pool [(2, .class_ 4), (1, u "java/lang/Object"), (0, u "<init>"), (0, u "()V"), (0, .class_ 8), (0, u "java/lang/String"), (0, .methodref 7 10), (0, .nameAndType 5 11), (0, u "([C)V"), (0, .fieldref 13 14), (0, .class_ 15), (0, .nameAndType 16 17), (0, u "com/example/gentle_nudge/gentlenudge/server/AccountKind"), (0, u "SERVICE"), (0, u "Lcom/example/gentle_nudge/gentlenudge/server/AccountKind;"), (0, .fieldref 13 19), (0, .nameAndType 20 17), (0, u "USER"), (0, .class_ 22), (0, u "com/example/gentle_nudge/gentlenudge/server/ChannelOwner"), (0, .methodref 7 24), (0, .nameAndType 25 26), (0, u "valueOf"), (0, u "(C)Ljava/lang/String;"), (0, .methodref 28 29), (0, .class_ 30), (0, .nameAndType 31 32), (0, u "com/example/gentle_nudge/gentlenudge/server/ChannelOwnerMayStopChannelOfPinLaw"), (0, u "mk"), (0, u "(ICC)Ljava/lang/String;"), (0, .methodref 21 34), (0, .nameAndType 5 35), (0, u "(Ljava/lang/String;Lcom/example/gentle_nudge/gentlenudge/server/AccountKind;Ljava/lang/String;)V"), (0, .methodref 21 37), (0, .nameAndType 38 39), (0, u "mayStopChannelOf"), (0, u "(Lcom/example/gentle_nudge/gentlenudge/server/ChannelOwner;)Z"), (3, u "law"), (0, u "(IIII)Z")] 2

def k1m0 : Method := { name := "<init>", desc := "()V", sig := { parameters := [], returnType := none }, accessFlags := 1, code := none }
def k1c1 : Code := { maxStack := 6, maxLocals := 3, code := method_2_code, exceptionTable := #[], attributes := #[] }
def k1m1 : Method := { name := "mk", desc := "(ICC)Ljava/lang/String;", sig := { parameters := [.int, .char, .char], returnType := some (.object "java/lang/String") }, accessFlags := 10, code := some k1c1 }
def k1c2 : Code := { maxStack := 7, maxLocals := 19, code := code, exceptionTable := #[], attributes := #[] }
def k1m2 : Method := { name := "law", desc := "(IIII)Z", sig := { parameters := [.int, .int, .int, .int], returnType := some .boolean }, accessFlags := 9, code := some k1c2 }
/-- com/example/gentle_nudge/gentlenudge/server/ChannelOwnerMayStopChannelOfPinLaw -/
def k1 : Class := { plain "com/example/gentle_nudge/gentlenudge/server/ChannelOwnerMayStopChannelOfPinLaw" (some 0) with
  accessFlags := 49
  interfaces := #[]
  cf := some (fileOf pool1 28 #[] #[{ accessFlags := 1, nameIndex := 5, descriptorIndex := 6, attributes := #[] }, { accessFlags := 10, nameIndex := 31, descriptorIndex := 32, attributes := #[] }, { accessFlags := 9, nameIndex := 43, descriptorIndex := 44, attributes := #[] }] 49 2 #[] #[])
  fields := #[]
  methods := #[k1m0, k1m1, k1m2]
  instanceTypes := #[]
  staticTypes := #[]
  resolved := Array.replicate 47 none
  statics := none }

def pool2 : Array CpInfo := pool [(1, .class_ 2), (0, u "java/lang/constant/Constable"), (0, .class_ 4), (0, u "java/lang/Object")] 6

/-- java/lang/constant/Constable -/
def k2 : Class := { plain "java/lang/constant/Constable" (some 0) with
  accessFlags := 1537
  interfaces := #[]
  cf := some (fileOf pool2 1 #[] #[] 1537 3 #[] #[])
  fields := #[]
  methods := #[]
  instanceTypes := #[]
  staticTypes := #[]
  resolved := Array.replicate 11 none
  statics := none }

def pool3 : Array CpInfo := pool [(1, .class_ 2), (0, u "java/lang/Comparable"), (0, .class_ 4), (0, u "java/lang/Object")] 7

/-- java/lang/Comparable -/
def k3 : Class := { plain "java/lang/Comparable" (some 0) with
  accessFlags := 1537
  interfaces := #[]
  cf := some (fileOf pool3 1 #[] #[] 1537 3 #[] #[])
  fields := #[]
  methods := #[]
  instanceTypes := #[]
  staticTypes := #[]
  resolved := Array.replicate 12 none
  statics := none }

def pool4 : Array CpInfo := pool [(1, .class_ 2), (0, u "java/io/Serializable"), (0, .class_ 4), (0, u "java/lang/Object")] 2

/-- java/io/Serializable -/
def k4 : Class := { plain "java/io/Serializable" (some 0) with
  accessFlags := 1537
  interfaces := #[]
  cf := some (fileOf pool4 1 #[] #[] 1537 3 #[] #[])
  fields := #[]
  methods := #[]
  instanceTypes := #[]
  staticTypes := #[]
  resolved := Array.replicate 7 none
  statics := none }

def pool5 : Array CpInfo := pool [(2, .class_ 4), (1, u "java/lang/Enum"), (0, u "name"), (0, u "Ljava/lang/String;"), (0, .fieldref 2 8), (0, .nameAndType 9 10), (0, u "ordinal"), (0, u "I"), (1, .class_ 14), (1, u "java/lang/Object"), (4, u "hash"), (86, .class_ 108), (1, u "java/lang/Enum$EnumDesc"), (2, .class_ 112), (0, u "java/lang/constant/Constable"), (0, .class_ 114), (0, u "java/lang/Comparable"), (0, .class_ 116), (0, u "java/io/Serializable"), (9, u "()I")] 77

def k5c0 : Code := { maxStack := 1, maxLocals := 1, code := jdk_37_method_2_code, exceptionTable := #[], attributes := #[] }
def k5m0 : Method := { name := "ordinal", desc := "()I", sig := { parameters := [], returnType := some .int }, accessFlags := 17, code := some k5c0 }
/-- java/lang/Enum -/
def k5 : Class := { plain "java/lang/Enum" (some 0) with
  accessFlags := 1057
  interfaces := #[2, 3, 4]
  cf := some (fileOf pool5 2 #[.nestMembers #[106]] #[{ accessFlags := 17, nameIndex := 9, descriptorIndex := 126, attributes := #[] }] 1057 12 #[111, 113, 115] #[{ accessFlags := 18, nameIndex := 5, descriptorIndex := 6, attributes := #[] }, { accessFlags := 18, nameIndex := 9, descriptorIndex := 10, attributes := #[] }, { accessFlags := 2, nameIndex := 19, descriptorIndex := 10, attributes := #[] }])
  fields := #[{ name := "name", type := (.object "java/lang/String"), accessFlags := 18, slot := 0, constantValue := 0 }, { name := "ordinal", type := .int, accessFlags := 18, slot := 1, constantValue := 0 }, { name := "hash", type := .int, accessFlags := 2, slot := 2, constantValue := 0 }]
  methods := #[k5m0]
  instanceTypes := #[(.object "java/lang/String"), .int, .int]
  staticTypes := #[]
  resolved := Array.replicate 204 none
  statics := none }

def pool6 : Array CpInfo := pool [(1, .class_ 2), (0, u "com/example/gentle_nudge/gentlenudge/server/AccountKind"), (2, u "USER"), (0, u "Lcom/example/gentle_nudge/gentlenudge/server/AccountKind;"), (2, u "SERVICE"), (2, u "$VALUES"), (0, u "[Lcom/example/gentle_nudge/gentlenudge/server/AccountKind;"), (6, .class_ 22), (1, u "java/lang/Enum"), (8, u "wireName"), (0, u "Ljava/lang/String;")] 48

/-- com/example/gentle_nudge/gentlenudge/server/AccountKind -/
def k6 : Class := { plain "com/example/gentle_nudge/gentlenudge/server/AccountKind" (some 5) with
  accessFlags := 16432
  interfaces := #[]
  cf := some (fileOf pool6 1 #[] #[] 16432 20 #[] #[{ accessFlags := 16409, nameIndex := 5, descriptorIndex := 6, attributes := #[] }, { accessFlags := 16409, nameIndex := 9, descriptorIndex := 6, attributes := #[] }, { accessFlags := 18, nameIndex := 31, descriptorIndex := 32, attributes := #[] }, { accessFlags := 4122, nameIndex := 12, descriptorIndex := 13, attributes := #[] }])
  fields := #[{ name := "USER", type := (.object "com/example/gentle_nudge/gentlenudge/server/AccountKind"), accessFlags := 16409, slot := 0, constantValue := 0 }, { name := "SERVICE", type := (.object "com/example/gentle_nudge/gentlenudge/server/AccountKind"), accessFlags := 16409, slot := 1, constantValue := 0 }, { name := "wireName", type := (.object "java/lang/String"), accessFlags := 18, slot := 3, constantValue := 0 }, { name := "$VALUES", type := (.array (.object "com/example/gentle_nudge/gentlenudge/server/AccountKind")), accessFlags := 4122, slot := 2, constantValue := 0 }]
  methods := #[]
  instanceTypes := #[(.object "java/lang/String"), .int, .int, (.object "java/lang/String")]
  staticTypes := #[(.object "com/example/gentle_nudge/gentlenudge/server/AccountKind"), (.object "com/example/gentle_nudge/gentlenudge/server/AccountKind"), (.array (.object "com/example/gentle_nudge/gentlenudge/server/AccountKind"))]
  resolved := Array.replicate 81 none
  statics := some 0 }

def pool7 : Array CpInfo := pool [(1, .methodref 2 3), (0, .class_ 4), (0, .nameAndType 5 6), (0, u "java/lang/Object"), (0, u "<init>"), (0, u "()V"), (0, .class_ 8), (0, u "java/lang/Record")] 13

def k7c0 : Code := { maxStack := 1, maxLocals := 1, code := jdk_30_method_1_code, exceptionTable := #[], attributes := #[] }
def k7m0 : Method := { name := "<init>", desc := "()V", sig := { parameters := [], returnType := none }, accessFlags := 4, code := some k7c0 }
/-- java/lang/Record -/
def k7 : Class := { plain "java/lang/Record" (some 0) with
  accessFlags := 1057
  interfaces := #[]
  cf := some (fileOf pool7 7 #[] #[{ accessFlags := 4, nameIndex := 5, descriptorIndex := 6, attributes := #[] }] 1057 2 #[] #[])
  fields := #[]
  methods := #[k7m0]
  instanceTypes := #[]
  staticTypes := #[]
  resolved := Array.replicate 22 none
  statics := none }

def pool8 : Array CpInfo := pool [(1, .methodref 2 3), (0, .class_ 4), (0, .nameAndType 5 6), (0, u "java/lang/Record"), (0, u "<init>"), (0, u "()V"), (0, .fieldref 8 9), (0, .class_ 10), (0, .nameAndType 11 12), (0, u "com/example/gentle_nudge/gentlenudge/server/ChannelOwner"), (0, u "client"), (0, u "Ljava/lang/String;"), (0, .fieldref 8 14), (0, .nameAndType 15 16), (0, u "kind"), (0, u "Lcom/example/gentle_nudge/gentlenudge/server/AccountKind;"), (0, .fieldref 8 18), (0, .nameAndType 19 12), (0, u "name"), (0, .fieldref 21 22), (0, .class_ 23), (0, .nameAndType 24 25), (0, u "com/example/gentle_nudge/gentlenudge/server/ChannelOwner$1"), (0, u "$SwitchMap$com$example$gentle_nudge$gentlenudge$server$AccountKind"), (0, u "[I"), (0, .methodref 8 27), (0, .nameAndType 15 28), (0, u "()Lcom/example/gentle_nudge/gentlenudge/server/AccountKind;"), (0, .methodref 30 31), (0, .class_ 32), (0, .nameAndType 33 34), (0, u "com/example/gentle_nudge/gentlenudge/server/AccountKind"), (0, u "ordinal"), (0, u "()I"), (5, .methodref 8 41), (0, .nameAndType 19 42), (0, u "()Ljava/lang/String;"), (0, .methodref 44 45), (0, .class_ 46), (0, .nameAndType 47 48), (0, u "java/lang/String"), (0, u "equals"), (0, u "(Ljava/lang/Object;)Z"), (11, u "(Ljava/lang/String;Lcom/example/gentle_nudge/gentlenudge/server/AccountKind;Ljava/lang/String;)V"), (3, u "mayStopChannelOf"), (0, u "(Lcom/example/gentle_nudge/gentlenudge/server/ChannelOwner;)Z")] 24

def k8c0 : Code := { maxStack := 2, maxLocals := 4, code := prog_12_method_1_code, exceptionTable := #[], attributes := #[] }
def k8m0 : Method := { name := "<init>", desc := "(Ljava/lang/String;Lcom/example/gentle_nudge/gentlenudge/server/AccountKind;Ljava/lang/String;)V", sig := { parameters := [(.object "java/lang/String"), (.object "com/example/gentle_nudge/gentlenudge/server/AccountKind"), (.object "java/lang/String")], returnType := none }, accessFlags := 0, code := some k8c0 }
def k8c1 : Code := { maxStack := 4, maxLocals := 2, code := prog_12_method_2_code, exceptionTable := #[], attributes := #[] }
def k8m1 : Method := { name := "mayStopChannelOf", desc := "(Lcom/example/gentle_nudge/gentlenudge/server/ChannelOwner;)Z", sig := { parameters := [(.object "com/example/gentle_nudge/gentlenudge/server/ChannelOwner")], returnType := some .boolean }, accessFlags := 0, code := some k8c1 }
def k8c2 : Code := { maxStack := 1, maxLocals := 1, code := prog_12_method_7_code, exceptionTable := #[], attributes := #[] }
def k8m2 : Method := { name := "kind", desc := "()Lcom/example/gentle_nudge/gentlenudge/server/AccountKind;", sig := { parameters := [], returnType := some (.object "com/example/gentle_nudge/gentlenudge/server/AccountKind") }, accessFlags := 1, code := some k8c2 }
def k8c3 : Code := { maxStack := 1, maxLocals := 1, code := prog_12_method_8_code, exceptionTable := #[], attributes := #[] }
def k8m3 : Method := { name := "name", desc := "()Ljava/lang/String;", sig := { parameters := [], returnType := some (.object "java/lang/String") }, accessFlags := 1, code := some k8c3 }
/-- com/example/gentle_nudge/gentlenudge/server/ChannelOwner -/
def k8 : Class := { plain "com/example/gentle_nudge/gentlenudge/server/ChannelOwner" (some 7) with
  accessFlags := 48
  interfaces := #[]
  cf := some (fileOf pool8 8 #[.nestMembers #[21]] #[{ accessFlags := 0, nameIndex := 5, descriptorIndex := 60, attributes := #[] }, { accessFlags := 0, nameIndex := 64, descriptorIndex := 65, attributes := #[] }, { accessFlags := 1, nameIndex := 15, descriptorIndex := 28, attributes := #[] }, { accessFlags := 1, nameIndex := 19, descriptorIndex := 42, attributes := #[] }] 48 2 #[] #[{ accessFlags := 18, nameIndex := 11, descriptorIndex := 12, attributes := #[] }, { accessFlags := 18, nameIndex := 15, descriptorIndex := 16, attributes := #[] }, { accessFlags := 18, nameIndex := 19, descriptorIndex := 12, attributes := #[] }])
  fields := #[{ name := "client", type := (.object "java/lang/String"), accessFlags := 18, slot := 0, constantValue := 0 }, { name := "kind", type := (.object "com/example/gentle_nudge/gentlenudge/server/AccountKind"), accessFlags := 18, slot := 1, constantValue := 0 }, { name := "name", type := (.object "java/lang/String"), accessFlags := 18, slot := 2, constantValue := 0 }]
  methods := #[k8m0, k8m1, k8m2, k8m3]
  instanceTypes := #[(.object "java/lang/String"), (.object "com/example/gentle_nudge/gentlenudge/server/AccountKind"), (.object "java/lang/String")]
  staticTypes := #[]
  resolved := Array.replicate 90 none
  statics := none }

def pool9 : Array CpInfo := pool [(2, .class_ 4), (1, u "java/lang/CharSequence"), (42, .class_ 48), (0, u "java/lang/CharSequence$1CodePointIterator"), (10, .class_ 60), (0, u "java/lang/CharSequence$1CharIterator"), (5, .class_ 67), (0, u "java/lang/Object")] 63

/-- java/lang/CharSequence -/
def k9 : Class := { plain "java/lang/CharSequence" (some 0) with
  accessFlags := 1537
  interfaces := #[]
  cf := some (fileOf pool9 2 #[.nestMembers #[47, 59]] #[] 1537 66 #[] #[])
  fields := #[]
  methods := #[]
  instanceTypes := #[]
  staticTypes := #[]
  resolved := Array.replicate 131 none
  statics := none }

def pool10 : Array CpInfo := pool [(1, .class_ 2), (0, u "java/lang/constant/ConstantDesc"), (0, .class_ 4), (0, u "java/lang/Object")] 32

/-- java/lang/constant/ConstantDesc -/
def k10 : Class := { plain "java/lang/constant/ConstantDesc" (some 0) with
  accessFlags := 1537
  interfaces := #[]
  cf := some (fileOf pool10 1 #[] #[] 1537 3 #[] #[])
  fields := #[]
  methods := #[]
  instanceTypes := #[]
  staticTypes := #[]
  resolved := Array.replicate 37 none
  statics := none }

def pool11 : Array CpInfo := pool [(1, .methodref 2 3), (0, .class_ 4), (0, .nameAndType 5 6), (0, u "java/lang/Object"), (0, u "<init>"), (0, u "()V"), (0, .string 8), (0, u ""), (0, .fieldref 10 11), (0, .class_ 12), (0, .nameAndType 13 14), (0, u "java/lang/String"), (0, u "value"), (0, u "[B"), (0, .fieldref 10 16), (0, .nameAndType 17 18), (0, u "coder"), (0, u "B"), (2, u "hash"), (0, u "I"), (2, u "hashIsZero"), (0, u "Z"), (0, .methodref 10 28), (0, .nameAndType 5 29), (0, u "([CIILjava/lang/Void;)V"), (8, .fieldref 10 39), (0, .nameAndType 40 26), (0, u "COMPACT_STRINGS"), (1, .class_ 44), (1, u "java/lang/StringUTF16"), (0, u "compress"), (1, .methodref 42 48), (0, .nameAndType 49 50), (0, u "coderFromArrayLen"), (0, u "([BI)B"), (2, u "toBytes"), (53, .class_ 109), (1, u "java/lang/StringLatin1"), (67, .methodref 42 178), (0, .nameAndType 45 179), (0, u "([CII)[B"), (29, .methodref 10 210), (0, .nameAndType 5 211), (0, u "([BB)V"), (157, u "(C)Z"), (171, .methodref 107 542), (0, .nameAndType 543 544), (0, u "equals"), (0, u "([B[B)Z"), (28, u "(Ljava/lang/Object;)Z"), (1, .class_ 576), (0, u "java/lang/CharSequence"), (22, u "CASE_INSENSITIVE_ORDER"), (0, u "Ljava/util/Comparator;"), (181, u "valueOf"), (0, u "(C)Ljava/lang/String;"), (226, u "([C)V"), (4, .methodref 107 1016), (0, .nameAndType 1017 369), (0, u "canEncode"), (0, .methodref 107 1019), (0, .nameAndType 53 1020), (0, u "(C)[B"), (80, u "serialPersistentFields"), (0, u "[Ljava/io/ObjectStreamField;"), (0, .class_ 1104), (0, u "java/lang/String$CaseInsensitiveComparator"), (1, .class_ 1107), (0, u "java/io/Serializable"), (0, .class_ 1109), (0, u "java/lang/Comparable"), (0, .class_ 1111), (0, u "java/lang/constant/Constable"), (0, .class_ 1113), (0, u "java/lang/constant/ConstantDesc"), (2, u "serialVersionUID"), (0, u "J"), (3, u "REPL"), (0, u "C"), (2, u "LATIN1"), (1, u "UTF16")] 323

def k11m0 : Method := { name := "<init>", desc := "()V", sig := { parameters := [], returnType := none }, accessFlags := 1, code := none }
def k11c1 : Code := { maxStack := 5, maxLocals := 2, code := jdk_42_method_3_code, exceptionTable := #[], attributes := #[] }
def k11m1 : Method := { name := "<init>", desc := "([C)V", sig := { parameters := [(.array .char)], returnType := none }, accessFlags := 1, code := some k11c1 }
def k11c2 : Code := { maxStack := 2, maxLocals := 3, code := jdk_42_method_66_code, exceptionTable := #[], attributes := #[] }
def k11m2 : Method := { name := "equals", desc := "(Ljava/lang/Object;)Z", sig := { parameters := [(.object "java/lang/Object")], returnType := some .boolean }, accessFlags := 1, code := some k11c2 }
def k11c3 : Code := { maxStack := 4, maxLocals := 1, code := jdk_42_method_139_code, exceptionTable := #[], attributes := #[] }
def k11m3 : Method := { name := "valueOf", desc := "(C)Ljava/lang/String;", sig := { parameters := [.char], returnType := some (.object "java/lang/String") }, accessFlags := 9, code := some k11c3 }
def k11c4 : Code := { maxStack := 4, maxLocals := 6, code := jdk_42_method_149_code, exceptionTable := #[], attributes := #[] }
def k11m4 : Method := { name := "<init>", desc := "([CIILjava/lang/Void;)V", sig := { parameters := [(.array .char), .int, .int, (.object "java/lang/Void")], returnType := none }, accessFlags := 2, code := some k11c4 }
def k11c5 : Code := { maxStack := 2, maxLocals := 3, code := jdk_42_method_151_code, exceptionTable := #[], attributes := #[] }
def k11m5 : Method := { name := "<init>", desc := "([BB)V", sig := { parameters := [(.array .byte), .byte], returnType := none }, accessFlags := 0, code := some k11c5 }
/-- java/lang/String -/
def k11 : Class := { plain "java/lang/String" (some 0) with
  accessFlags := 49
  interfaces := #[4, 3, 9, 2, 10]
  cf := some (fileOf pool11 10 #[.nestMembers #[1103]] #[{ accessFlags := 1, nameIndex := 5, descriptorIndex := 6, attributes := #[] }, { accessFlags := 1, nameIndex := 5, descriptorIndex := 1010, attributes := #[] }, { accessFlags := 1, nameIndex := 543, descriptorIndex := 573, attributes := #[] }, { accessFlags := 9, nameIndex := 782, descriptorIndex := 783, attributes := #[] }, { accessFlags := 2, nameIndex := 5, descriptorIndex := 29, attributes := #[] }, { accessFlags := 0, nameIndex := 5, descriptorIndex := 211, attributes := #[] }] 49 2 #[1106, 1108, 575, 1110, 1112] #[{ accessFlags := 18, nameIndex := 13, descriptorIndex := 14, attributes := #[] }, { accessFlags := 18, nameIndex := 17, descriptorIndex := 18, attributes := #[] }, { accessFlags := 2, nameIndex := 21, descriptorIndex := 22, attributes := #[] }, { accessFlags := 2, nameIndex := 25, descriptorIndex := 26, attributes := #[] }, { accessFlags := 26, nameIndex := 1116, descriptorIndex := 1117, attributes := #[] }, { accessFlags := 24, nameIndex := 40, descriptorIndex := 26, attributes := #[] }, { accessFlags := 26, nameIndex := 1101, descriptorIndex := 1102, attributes := #[] }, { accessFlags := 26, nameIndex := 1121, descriptorIndex := 1122, attributes := #[] }, { accessFlags := 25, nameIndex := 599, descriptorIndex := 600, attributes := #[] }, { accessFlags := 24, nameIndex := 1125, descriptorIndex := 18, attributes := #[] }, { accessFlags := 24, nameIndex := 1127, descriptorIndex := 18, attributes := #[] }])
  fields := #[{ name := "value", type := (.array .byte), accessFlags := 18, slot := 0, constantValue := 0 }, { name := "coder", type := .byte, accessFlags := 18, slot := 1, constantValue := 0 }, { name := "hash", type := .int, accessFlags := 2, slot := 2, constantValue := 0 }, { name := "hashIsZero", type := .boolean, accessFlags := 2, slot := 3, constantValue := 0 }, { name := "serialVersionUID", type := .long, accessFlags := 26, slot := 0, constantValue := 0 }, { name := "COMPACT_STRINGS", type := .boolean, accessFlags := 24, slot := 1, constantValue := 0 }, { name := "serialPersistentFields", type := (.array (.object "java/io/ObjectStreamField")), accessFlags := 26, slot := 2, constantValue := 0 }, { name := "REPL", type := .char, accessFlags := 26, slot := 3, constantValue := 0 }, { name := "CASE_INSENSITIVE_ORDER", type := (.object "java/util/Comparator"), accessFlags := 25, slot := 4, constantValue := 0 }, { name := "LATIN1", type := .byte, accessFlags := 24, slot := 5, constantValue := 0 }, { name := "UTF16", type := .byte, accessFlags := 24, slot := 6, constantValue := 0 }]
  methods := #[k11m0, k11m1, k11m2, k11m3, k11m4, k11m5]
  instanceTypes := #[(.array .byte), .byte, .int, .boolean]
  staticTypes := #[.long, .boolean, (.array (.object "java/io/ObjectStreamField")), .char, (.object "java/util/Comparator"), .byte, .byte]
  resolved := Array.replicate 1451 none
  statics := some 1 }

def pool12 : Array CpInfo := pool [(4, .class_ 6), (1, u "java/lang/Object"), (0, u "<init>"), (0, u "()V"), (5, .class_ 16), (1, u "java/lang/StringLatin1"), (73, u "canEncode"), (14, u "(C)Z"), (15, u "$assertionsDisabled"), (0, u "Z"), (98, .class_ 223), (1, u "java/lang/StringLatin1$LinesSpliterator"), (57, u "equals"), (0, u "([B[B)Z"), (97, u "toBytes"), (1, u "(C)[B"), (7, .class_ 391), (0, u "java/lang/StringLatin1$CharsSpliterator")] 3

def k12m0 : Method := { name := "<init>", desc := "()V", sig := { parameters := [], returnType := none }, accessFlags := 0, code := none }
def k12c1 : Code := { maxStack := 2, maxLocals := 1, code := jdk_43_method_3_code, exceptionTable := #[], attributes := #[] }
def k12m1 : Method := { name := "canEncode", desc := "(C)Z", sig := { parameters := [.char], returnType := some .boolean }, accessFlags := 9, code := some k12c1 }
def k12c2 : Code := { maxStack := 3, maxLocals := 3, code := jdk_43_method_13_code, exceptionTable := #[], attributes := #[] }
def k12m2 : Method := { name := "equals", desc := "([B[B)Z", sig := { parameters := [(.array .byte), (.array .byte)], returnType := some .boolean }, accessFlags := 9, code := some k12c2 }
def k12c3 : Code := { maxStack := 4, maxLocals := 1, code := jdk_43_method_46_code, exceptionTable := #[], attributes := #[] }
def k12m3 : Method := { name := "toBytes", desc := "(C)[B", sig := { parameters := [.char], returnType := some (.array .byte) }, accessFlags := 9, code := some k12c3 }
/-- java/lang/StringLatin1 -/
def k12 : Class := { plain "java/lang/StringLatin1" (some 0) with
  accessFlags := 48
  interfaces := #[]
  cf := some (fileOf pool12 14 #[.nestMembers #[390, 221]] #[{ accessFlags := 0, nameIndex := 7, descriptorIndex := 8, attributes := #[] }, { accessFlags := 9, nameIndex := 90, descriptorIndex := 105, attributes := #[] }, { accessFlags := 9, nameIndex := 281, descriptorIndex := 282, attributes := #[] }, { accessFlags := 9, nameIndex := 380, descriptorIndex := 382, attributes := #[] }] 48 4 #[] #[{ accessFlags := 4120, nameIndex := 121, descriptorIndex := 122, attributes := #[] }])
  fields := #[{ name := "$assertionsDisabled", type := .boolean, accessFlags := 4120, slot := 0, constantValue := 0 }]
  methods := #[k12m0, k12m1, k12m2, k12m3]
  instanceTypes := #[]
  staticTypes := #[.boolean]
  resolved := Array.replicate 395 none
  statics := none }

def pool13 : Array CpInfo := pool [(8, .class_ 10), (1, u "com/example/gentle_nudge/gentlenudge/server/ChannelOwner$1"), (0, u "$SwitchMap$com$example$gentle_nudge$gentlenudge$server$AccountKind"), (0, u "[I"), (13, .class_ 27), (0, u "java/lang/Object"), (8, .class_ 37), (0, u "com/example/gentle_nudge/gentlenudge/server/ChannelOwner")] 2

/-- com/example/gentle_nudge/gentlenudge/server/ChannelOwner$1 -/
def k13 : Class := { plain "com/example/gentle_nudge/gentlenudge/server/ChannelOwner$1" (some 0) with
  accessFlags := 4128
  interfaces := #[]
  cf := some (fileOf pool13 8 #[.nestHost 36] #[] 4128 26 #[] #[{ accessFlags := 4120, nameIndex := 11, descriptorIndex := 12, attributes := #[] }])
  fields := #[{ name := "$SwitchMap$com$example$gentle_nudge$gentlenudge$server$AccountKind", type := (.array .int), accessFlags := 4120, slot := 0, constantValue := 0 }]
  methods := #[]
  instanceTypes := #[]
  staticTypes := #[(.array .int)]
  resolved := Array.replicate 40 none
  statics := some 2 }

def pool14 : Array CpInfo := pool [(6, .class_ 8), (1, u "java/lang/Object"), (0, u "<init>"), (0, u "()V"), (1, .class_ 14), (1, u "java/lang/StringUTF16"), (31, u "$assertionsDisabled"), (0, u "Z"), (13, u "HI_BYTE_SHIFT"), (0, u "I"), (2, u "LO_BYTE_SHIFT"), (49, .methodref 12 116), (0, .nameAndType 117 118), (0, u "compress"), (0, u "([CI[BII)I"), (3, u "([CII)[B"), (138, u "coderFromArrayLen"), (0, u "([BI)B"), (106, .class_ 371), (1, u "java/lang/StringUTF16$LinesSpliterator"), (58, u "MAX_LENGTH"), (196, .class_ 628), (0, u "java/lang/StringUTF16$CodePointsSpliterator"), (0, .class_ 630), (0, u "java/lang/StringUTF16$CharsSpliterator")] 4

def k14m0 : Method := { name := "<init>", desc := "()V", sig := { parameters := [], returnType := none }, accessFlags := 0, code := none }
def k14c1 : Code := { maxStack := 2, maxLocals := 2, code := jdk_52_method_15_code, exceptionTable := #[], attributes := #[] }
def k14m1 : Method := { name := "coderFromArrayLen", desc := "([BI)B", sig := { parameters := [(.array .byte), .int], returnType := some .byte }, accessFlags := 8, code := some k14c1 }
def k14c2 : Code := { maxStack := 5, maxLocals := 6, code := jdk_52_method_16_code, exceptionTable := #[], attributes := #[] }
def k14m2 : Method := { name := "compress", desc := "([CII)[B", sig := { parameters := [(.array .char), .int, .int], returnType := some (.array .byte) }, accessFlags := 9, code := some k14c2 }
def k14c3 : Code := { maxStack := 3, maxLocals := 7, code := jdk_52_method_21_code, exceptionTable := #[], attributes := #[] }
def k14m3 : Method := { name := "compress", desc := "([CI[BII)I", sig := { parameters := [(.array .char), .int, (.array .byte), .int, .int], returnType := some .int }, accessFlags := 9, code := some k14c3 }
/-- java/lang/StringUTF16 -/
def k14 : Class := { plain "java/lang/StringUTF16" (some 0) with
  accessFlags := 48
  interfaces := #[]
  cf := some (fileOf pool14 12 #[.nestMembers #[627, 629, 369]] #[{ accessFlags := 0, nameIndex := 9, descriptorIndex := 10, attributes := #[] }, { accessFlags := 8, nameIndex := 261, descriptorIndex := 262, attributes := #[] }, { accessFlags := 9, nameIndex := 117, descriptorIndex := 122, attributes := #[] }, { accessFlags := 9, nameIndex := 117, descriptorIndex := 118, attributes := #[] }] 48 6 #[] #[{ accessFlags := 26, nameIndex := 61, descriptorIndex := 62, attributes := #[] }, { accessFlags := 26, nameIndex := 65, descriptorIndex := 62, attributes := #[] }, { accessFlags := 24, nameIndex := 430, descriptorIndex := 62, attributes := #[] }, { accessFlags := 4120, nameIndex := 46, descriptorIndex := 47, attributes := #[] }])
  fields := #[{ name := "HI_BYTE_SHIFT", type := .int, accessFlags := 26, slot := 0, constantValue := 0 }, { name := "LO_BYTE_SHIFT", type := .int, accessFlags := 26, slot := 1, constantValue := 0 }, { name := "MAX_LENGTH", type := .int, accessFlags := 24, slot := 2, constantValue := 0 }, { name := "$assertionsDisabled", type := .boolean, accessFlags := 4120, slot := 3, constantValue := 0 }]
  methods := #[k14m0, k14m1, k14m2, k14m3]
  instanceTypes := #[]
  staticTypes := #[.int, .int, .int, .boolean]
  resolved := Array.replicate 635 none
  statics := none }

def pool15 : Array CpInfo := pool [(2, .class_ 4), (1, u "java/lang/Object"), (0, u "<init>"), (0, u "()V"), (17, .class_ 26), (1, u "jdk/internal/util/Preconditions"), (28, .class_ 56), (0, u "jdk/internal/util/Preconditions$4"), (57, .class_ 115), (0, u "jdk/internal/util/Preconditions$1"), (7, u "SIOOBE_FORMATTER"), (0, u "Ljava/util/function/BiFunction;"), (0, .class_ 126), (0, u "jdk/internal/util/Preconditions$2"), (3, u "AIOOBE_FORMATTER"), (0, .class_ 132), (0, u "jdk/internal/util/Preconditions$3"), (3, u "IOOBE_FORMATTER")] 57

def k15m0 : Method := { name := "<init>", desc := "()V", sig := { parameters := [], returnType := none }, accessFlags := 1, code := none }
/-- jdk/internal/util/Preconditions -/
def k15 : Class := { plain "jdk/internal/util/Preconditions" (some 0) with
  accessFlags := 33
  interfaces := #[]
  cf := some (fileOf pool15 24 #[.nestMembers #[55, 131, 125, 114]] #[{ accessFlags := 1, nameIndex := 5, descriptorIndex := 6, attributes := #[] }] 33 2 #[] #[{ accessFlags := 25, nameIndex := 123, descriptorIndex := 124, attributes := #[] }, { accessFlags := 25, nameIndex := 130, descriptorIndex := 124, attributes := #[] }, { accessFlags := 25, nameIndex := 136, descriptorIndex := 124, attributes := #[] }])
  fields := #[{ name := "SIOOBE_FORMATTER", type := (.object "java/util/function/BiFunction"), accessFlags := 25, slot := 0, constantValue := 0 }, { name := "AIOOBE_FORMATTER", type := (.object "java/util/function/BiFunction"), accessFlags := 25, slot := 1, constantValue := 0 }, { name := "IOOBE_FORMATTER", type := (.object "java/util/function/BiFunction"), accessFlags := 25, slot := 2, constantValue := 0 }]
  methods := #[k15m0]
  instanceTypes := #[]
  staticTypes := #[(.object "java/util/function/BiFunction"), (.object "java/util/function/BiFunction"), (.object "java/util/function/BiFunction")]
  resolved := Array.replicate 194 none
  statics := some 3 }

def pool16 : Array CpInfo := pool [(9, u "<init>"), (6, .class_ 18), (1, u "java/lang/Object"), (0, u "()V"), (1, .class_ 23), (1, u "jdk/internal/util/ArraysSupport"), (0, u "LOG2_ARRAY_LONG_INDEX_SCALE"), (0, u "I"), (2, u "U"), (0, u "Ljdk/internal/misc/Unsafe;"), (8, u "BIG_ENDIAN"), (0, u "Z"), (8, u "LOG2_BYTE_BIT_SIZE"), (4, u "LOG2_ARRAY_INT_INDEX_SCALE"), (54, u "JLA"), (0, u "Ljdk/internal/access/JavaLangAccess;"), (11, u "LOG2_ARRAY_BOOLEAN_INDEX_SCALE"), (9, u "LOG2_ARRAY_BYTE_INDEX_SCALE"), (5, u "LOG2_ARRAY_CHAR_INDEX_SCALE"), (5, u "LOG2_ARRAY_SHORT_INDEX_SCALE"), (18, u "LOG2_ARRAY_FLOAT_INDEX_SCALE"), (24, u "LOG2_ARRAY_DOUBLE_INDEX_SCALE"), (89, u "T_BOOLEAN"), (2, u "T_CHAR"), (1, u "T_FLOAT"), (1, u "T_DOUBLE"), (1, u "T_BYTE"), (1, u "T_SHORT"), (1, u "T_INT"), (1, u "T_LONG"), (1, u "SOFT_MAX_ARRAY_LENGTH")] 83

def k16m0 : Method := { name := "<init>", desc := "()V", sig := { parameters := [], returnType := none }, accessFlags := 2, code := none }
/-- jdk/internal/util/ArraysSupport -/
def k16 : Class := { plain "jdk/internal/util/ArraysSupport" (some 0) with
  accessFlags := 33
  interfaces := #[]
  cf := some (fileOf pool16 21 #[] #[{ accessFlags := 2, nameIndex := 9, descriptorIndex := 19, attributes := #[] }] 33 16 #[] #[{ accessFlags := 24, nameIndex := 28, descriptorIndex := 29, attributes := #[] }, { accessFlags := 26, nameIndex := 38, descriptorIndex := 39, attributes := #[] }, { accessFlags := 25, nameIndex := 121, descriptorIndex := 25, attributes := #[] }, { accessFlags := 25, nameIndex := 131, descriptorIndex := 25, attributes := #[] }, { accessFlags := 25, nameIndex := 137, descriptorIndex := 25, attributes := #[] }, { accessFlags := 25, nameIndex := 143, descriptorIndex := 25, attributes := #[] }, { accessFlags := 25, nameIndex := 53, descriptorIndex := 25, attributes := #[] }, { accessFlags := 25, nameIndex := 24, descriptorIndex := 25, attributes := #[] }, { accessFlags := 25, nameIndex := 162, descriptorIndex := 25, attributes := #[] }, { accessFlags := 25, nameIndex := 187, descriptorIndex := 25, attributes := #[] }, { accessFlags := 26, nameIndex := 48, descriptorIndex := 25, attributes := #[] }, { accessFlags := 25, nameIndex := 277, descriptorIndex := 25, attributes := #[] }, { accessFlags := 25, nameIndex := 280, descriptorIndex := 25, attributes := #[] }, { accessFlags := 25, nameIndex := 282, descriptorIndex := 25, attributes := #[] }, { accessFlags := 25, nameIndex := 284, descriptorIndex := 25, attributes := #[] }, { accessFlags := 25, nameIndex := 286, descriptorIndex := 25, attributes := #[] }, { accessFlags := 25, nameIndex := 288, descriptorIndex := 25, attributes := #[] }, { accessFlags := 25, nameIndex := 290, descriptorIndex := 25, attributes := #[] }, { accessFlags := 25, nameIndex := 292, descriptorIndex := 25, attributes := #[] }, { accessFlags := 26, nameIndex := 108, descriptorIndex := 109, attributes := #[] }, { accessFlags := 25, nameIndex := 294, descriptorIndex := 25, attributes := #[] }])
  fields := #[{ name := "U", type := (.object "jdk/internal/misc/Unsafe"), accessFlags := 24, slot := 0, constantValue := 0 }, { name := "BIG_ENDIAN", type := .boolean, accessFlags := 26, slot := 1, constantValue := 0 }, { name := "LOG2_ARRAY_BOOLEAN_INDEX_SCALE", type := .int, accessFlags := 25, slot := 2, constantValue := 0 }, { name := "LOG2_ARRAY_BYTE_INDEX_SCALE", type := .int, accessFlags := 25, slot := 3, constantValue := 0 }, { name := "LOG2_ARRAY_CHAR_INDEX_SCALE", type := .int, accessFlags := 25, slot := 4, constantValue := 0 }, { name := "LOG2_ARRAY_SHORT_INDEX_SCALE", type := .int, accessFlags := 25, slot := 5, constantValue := 0 }, { name := "LOG2_ARRAY_INT_INDEX_SCALE", type := .int, accessFlags := 25, slot := 6, constantValue := 0 }, { name := "LOG2_ARRAY_LONG_INDEX_SCALE", type := .int, accessFlags := 25, slot := 7, constantValue := 0 }, { name := "LOG2_ARRAY_FLOAT_INDEX_SCALE", type := .int, accessFlags := 25, slot := 8, constantValue := 0 }, { name := "LOG2_ARRAY_DOUBLE_INDEX_SCALE", type := .int, accessFlags := 25, slot := 9, constantValue := 0 }, { name := "LOG2_BYTE_BIT_SIZE", type := .int, accessFlags := 26, slot := 10, constantValue := 0 }, { name := "T_BOOLEAN", type := .int, accessFlags := 25, slot := 11, constantValue := 0 }, { name := "T_CHAR", type := .int, accessFlags := 25, slot := 12, constantValue := 0 }, { name := "T_FLOAT", type := .int, accessFlags := 25, slot := 13, constantValue := 0 }, { name := "T_DOUBLE", type := .int, accessFlags := 25, slot := 14, constantValue := 0 }, { name := "T_BYTE", type := .int, accessFlags := 25, slot := 15, constantValue := 0 }, { name := "T_SHORT", type := .int, accessFlags := 25, slot := 16, constantValue := 0 }, { name := "T_INT", type := .int, accessFlags := 25, slot := 17, constantValue := 0 }, { name := "T_LONG", type := .int, accessFlags := 25, slot := 18, constantValue := 0 }, { name := "JLA", type := (.object "jdk/internal/access/JavaLangAccess"), accessFlags := 26, slot := 19, constantValue := 0 }, { name := "SOFT_MAX_ARRAY_LENGTH", type := .int, accessFlags := 25, slot := 20, constantValue := 0 }]
  methods := #[k16m0]
  instanceTypes := #[]
  staticTypes := #[(.object "jdk/internal/misc/Unsafe"), .boolean, .int, .int, .int, .int, .int, .int, .int, .int, .int, .int, .int, .int, .int, .int, .int, .int, .int, (.object "jdk/internal/access/JavaLangAccess"), .int]
  resolved := Array.replicate 378 none
  statics := none }

def pool17 : Array CpInfo := pool [(1, u "java/lang/Cloneable"), (0, .class_ 1), (0, u "java/lang/Object"), (0, .class_ 3)] 3

/-- java/lang/Cloneable -/
def k17 : Class := { plain "java/lang/Cloneable" (some 0) with
  accessFlags := 1537
  interfaces := #[]
  cf := some (fileOf pool17 2 #[] #[] 1537 4 #[] #[])
  fields := #[]
  methods := #[]
  instanceTypes := #[]
  staticTypes := #[]
  resolved := Array.replicate 8 none
  statics := none }

/-- the primitive byte -/
def k18 : Class := { plain "byte" none with kind := .primitive 'B', accessFlags := 0x411 }
/-- [B -/
def k19 : Class := { plain "[B" (some 0) with kind := .array 18 .byte, interfaces := #[17, 4], accessFlags := 1041 }

/-- the primitive char -/
def k20 : Class := { plain "char" none with kind := .primitive 'C', accessFlags := 0x411 }
/-- [C -/
def k21 : Class := { plain "[C" (some 0) with kind := .array 20 .char, interfaces := #[17, 4], accessFlags := 1041 }

/-- the primitive int -/
def k22 : Class := { plain "int" none with kind := .primitive 'I', accessFlags := 0x411 }
/-- [I -/
def k23 : Class := { plain "[I" (some 0) with kind := .array 22 .int, interfaces := #[17, 4], accessFlags := 1041 }

def heap : Heap := #[{ cls := 6, slots := #[.ref 4, .ref 5, .null], vm := .statics 6 },
  { cls := 11, slots := #[.long 0, .int 1, .null, .int 0, .null, .int 0, .int 0], vm := .statics 11 },
  { cls := 13, slots := #[.ref 6], vm := .statics 13 },
  { cls := 15, slots := #[.null, .null, .null], vm := .statics 15 },
  { cls := 6, slots := #[.null, .int 0, .int 0, .null], vm := .none },
  { cls := 6, slots := #[.null, .int 1, .int 0, .null], vm := .none },
  { cls := 23, slots := #[.int 1, .int 2], vm := .none }]
def classes : Array Class := #[k0, k1, k2, k3, k4, k5, k6, k7, k8, k9, k10, k11, k12, k13, k14, k15, k16, k17, k18, k19, k20, k21, k22, k23]
def interned : List (Array UInt16 × Addr) := []
def slotsUsed : Nat := 24
def theMethod : MethodId := ⟨1, 2⟩
def args0 : Array Value := #[.int 9, .int 65, .int 66, .int 67]
def aboutOver (below : List Frame) : State where
  vm := { classes := classes, interned := interned.toArray }
  heap := heap
  slotsUsed := slotsUsed
  threads := #[{ frames := .invoking theMethod args0 :: below }]
def below0 : List Frame := [.native { method := ⟨0, 0⟩, args := #[] }]
def about1 : State := aboutOver below0
def p0 : Program := .bare "" "" ""
def e0 : Env := launch0.env 0 0 0
theorem w_frames : about1.frames = Frame.invoking theMethod args0 :: below0 := rfl
set_option maxRecDepth 65536 in
theorem w_args : argsFit about1.vm theMethod args0 = true := by decide +kernel
set_option maxRecDepth 65536 in
theorem w_heap : heapFits about1 = true := by decide +kernel
set_option maxRecDepth 65536 in
theorem w_runnable : about1.curStatus? = some .runnable := by decide +kernel
set_option maxRecDepth 65536 in
theorem w_alone : about1.alone = true := by decide +kernel
set_option maxRecDepth 65536 in
theorem w_named : about1.methodNamed? x = some theMethod := by decide +kernel
set_option maxRecDepth 65536 in
theorem w_hears : about1.hears theMethod below0 = true := by decide +kernel
set_option maxRecDepth 65536 in
theorem w_ripe : about1.ripe theMethod args0 below0 = true := by decide +kernel
theorem w_running : about1.status = .running := rfl
set_option maxRecDepth 65536 in
theorem w_room : about1.hasRoom e0.platform room_1 = true :=
  launch0.hasRoom_least _ room_1 (by decide +kernel) (by decide +kernel) (by decide +kernel) (by decide +kernel) (by decide +kernel) (by decide +kernel)
theorem allAtoms_all (ts : List Jvm.Cond) (a : Array Jvm.Value) (st : Jvm.State) : (allAtoms ts).before a st = ts.all (fun c => c.before a st) := by
  induction ts with
  | nil => rfl
  | cons c t ih =>
    show (Jvm.Cond.and c (allAtoms t)).before a st = _
    rw [Jvm.Cond.before_and, ih, List.all_cons]
def words1 : List Jvm.Cond := Jvm.Cond.code x code maxLocals ret :: tables_1
/-- a 'code' word, met by the world's own term for the bytes: nothing is compared byte by byte -/
theorem code_word {y : MethodName} {bytes : ByteArray} {mx : Nat} {rt : Option FieldType} {a : Array Value} {s : State} {m : MethodId} {meth : Method} {c : Code} (h1 : s.methodNamed? y = some m) (h2 : s.vm.method? m = some meth) (h3 : meth.code = some c) (h4 : c.code = bytes)
    (h5 : (c.maxLocals == mx && c.exceptionTable.isEmpty && decide (c.maxStack ≤ mostOperands) && decide (meth.sig.returnType = rt) && !meth.locks && decide (parseMethodDescriptor y.desc = some meth.sig)) = true) : (Jvm.Cond.code y bytes mx rt).before a s = true := by
  simp only [Bool.and_eq_true, beq_iff_eq, Bool.not_eq_true', decide_eq_true_eq] at h5
  obtain ⟨⟨⟨⟨⟨g1, g2⟩, g3⟩, g4⟩, g5⟩, g6⟩ := h5
  simp [Cond.before, Cond.holds, Cond.value, h1, h2, h3, h4, g1, g2, g3, g4, g5, g6]
def isCode : Jvm.Cond → Bool
  | .code _ _ _ _ => true
  | _ => false
theorem all_split {L : List Jvm.Cond} {P : Jvm.Cond → Bool} (h1 : L.all (fun c => isCode c || P c) = true) (h2 : ∀ c ∈ L.filter isCode, P c = true) : L.all P = true := by
  refine List.all_eq_true.mpr fun c hc => ?_
  have h := List.all_eq_true.mp h1 c hc
  rcases Bool.eq_false_or_eq_true (isCode c) with hi | hi
  · exact h2 c (List.mem_filter.mpr ⟨hc, hi⟩)
  · simpa [hi] using h
set_option maxRecDepth 65536 in
theorem w_c0 : (Jvm.Cond.code x code maxLocals ret).before args0 about1 = true := code_word (m := ⟨1, 2⟩) (meth := k1m2) (c := k1c2) (by decide +kernel) rfl rfl rfl (by decide +kernel)
set_option maxRecDepth 65536 in
theorem w_c1 : (Jvm.Cond.code ({ cls := "java/lang/String", name := "valueOf", desc := "(C)Ljava/lang/String;" } : Jvm.MethodName) jdk_42_method_139_code (1 : Nat) (Option.some (Jvm.ClassFile.FieldType.object "java/lang/String"))).before args0 about1 = true := code_word (m := ⟨11, 3⟩) (meth := k11m3) (c := k11c3) (by decide +kernel) rfl rfl rfl (by decide +kernel)
set_option maxRecDepth 65536 in
theorem w_c2 : (Jvm.Cond.code ({ cls := "java/lang/StringLatin1", name := "canEncode", desc := "(C)Z" } : Jvm.MethodName) jdk_43_method_3_code (1 : Nat) (Option.some Jvm.ClassFile.FieldType.boolean)).before args0 about1 = true := code_word (m := ⟨12, 1⟩) (meth := k12m1) (c := k12c1) (by decide +kernel) rfl rfl rfl (by decide +kernel)
set_option maxRecDepth 65536 in
theorem w_c3 : (Jvm.Cond.code ({ cls := "java/lang/StringLatin1", name := "toBytes", desc := "(C)[B" } : Jvm.MethodName) jdk_43_method_46_code (1 : Nat) (Option.some (Jvm.ClassFile.FieldType.array Jvm.ClassFile.FieldType.byte))).before args0 about1 = true := code_word (m := ⟨12, 3⟩) (meth := k12m3) (c := k12c3) (by decide +kernel) rfl rfl rfl (by decide +kernel)
set_option maxRecDepth 65536 in
theorem w_c4 : (Jvm.Cond.code ({ cls := "java/lang/String", name := "<init>", desc := "([BB)V" } : Jvm.MethodName) jdk_42_method_151_code (3 : Nat) (Option.none : Option Jvm.ClassFile.FieldType)).before args0 about1 = true := code_word (m := ⟨11, 5⟩) (meth := k11m5) (c := k11c5) (by decide +kernel) rfl rfl rfl (by decide +kernel)
set_option maxRecDepth 65536 in
theorem w_c5 : (Jvm.Cond.code ({ cls := "java/lang/Object", name := "<init>", desc := "()V" } : Jvm.MethodName) object_method_1_code (1 : Nat) (Option.none : Option Jvm.ClassFile.FieldType)).before args0 about1 = true := code_word (m := ⟨0, 0⟩) (meth := k0m0) (c := k0c0) (by decide +kernel) rfl rfl rfl (by decide +kernel)
set_option maxRecDepth 65536 in
theorem w_c6 : (Jvm.Cond.code ({ cls := "com/example/gentle_nudge/gentlenudge/server/ChannelOwnerMayStopChannelOfPinLaw", name := "mk", desc := "(ICC)Ljava/lang/String;" } : Jvm.MethodName) method_2_code (3 : Nat) (Option.some (Jvm.ClassFile.FieldType.object "java/lang/String"))).before args0 about1 = true := code_word (m := ⟨1, 1⟩) (meth := k1m1) (c := k1c1) (by decide +kernel) rfl rfl rfl (by decide +kernel)
set_option maxRecDepth 65536 in
theorem w_c7 : (Jvm.Cond.code ({ cls := "java/lang/String", name := "<init>", desc := "([C)V" } : Jvm.MethodName) jdk_42_method_3_code (2 : Nat) (Option.none : Option Jvm.ClassFile.FieldType)).before args0 about1 = true := code_word (m := ⟨11, 1⟩) (meth := k11m1) (c := k11c1) (by decide +kernel) rfl rfl rfl (by decide +kernel)
set_option maxRecDepth 65536 in
theorem w_c8 : (Jvm.Cond.code ({ cls := "java/lang/String", name := "<init>", desc := "([CIILjava/lang/Void;)V" } : Jvm.MethodName) jdk_42_method_149_code (6 : Nat) (Option.none : Option Jvm.ClassFile.FieldType)).before args0 about1 = true := code_word (m := ⟨11, 4⟩) (meth := k11m4) (c := k11c4) (by decide +kernel) rfl rfl rfl (by decide +kernel)
set_option maxRecDepth 65536 in
theorem w_c9 : (Jvm.Cond.code ({ cls := "com/example/gentle_nudge/gentlenudge/server/ChannelOwner", name := "<init>", desc := "(Ljava/lang/String;Lcom/example/gentle_nudge/gentlenudge/server/AccountKind;Ljava/lang/String;)V" } : Jvm.MethodName) prog_12_method_1_code (4 : Nat) (Option.none : Option Jvm.ClassFile.FieldType)).before args0 about1 = true := code_word (m := ⟨8, 0⟩) (meth := k8m0) (c := k8c0) (by decide +kernel) rfl rfl rfl (by decide +kernel)
set_option maxRecDepth 65536 in
theorem w_c10 : (Jvm.Cond.code ({ cls := "java/lang/Record", name := "<init>", desc := "()V" } : Jvm.MethodName) jdk_30_method_1_code (1 : Nat) (Option.none : Option Jvm.ClassFile.FieldType)).before args0 about1 = true := code_word (m := ⟨7, 0⟩) (meth := k7m0) (c := k7c0) (by decide +kernel) rfl rfl rfl (by decide +kernel)
set_option maxRecDepth 65536 in
theorem w_c11 : (Jvm.Cond.code ({ cls := "com/example/gentle_nudge/gentlenudge/server/ChannelOwner", name := "mayStopChannelOf", desc := "(Lcom/example/gentle_nudge/gentlenudge/server/ChannelOwner;)Z" } : Jvm.MethodName) prog_12_method_2_code (2 : Nat) (Option.some Jvm.ClassFile.FieldType.boolean)).before args0 about1 = true := code_word (m := ⟨8, 1⟩) (meth := k8m1) (c := k8c1) (by decide +kernel) rfl rfl rfl (by decide +kernel)
set_option maxRecDepth 65536 in
theorem w_c12 : (Jvm.Cond.code ({ cls := "com/example/gentle_nudge/gentlenudge/server/ChannelOwner", name := "kind", desc := "()Lcom/example/gentle_nudge/gentlenudge/server/AccountKind;" } : Jvm.MethodName) prog_12_method_7_code (1 : Nat) (Option.some (Jvm.ClassFile.FieldType.object "com/example/gentle_nudge/gentlenudge/server/AccountKind"))).before args0 about1 = true := code_word (m := ⟨8, 2⟩) (meth := k8m2) (c := k8c2) (by decide +kernel) rfl rfl rfl (by decide +kernel)
set_option maxRecDepth 65536 in
theorem w_c13 : (Jvm.Cond.code ({ cls := "java/lang/Enum", name := "ordinal", desc := "()I" } : Jvm.MethodName) jdk_37_method_2_code (1 : Nat) (Option.some Jvm.ClassFile.FieldType.int)).before args0 about1 = true := code_word (m := ⟨5, 0⟩) (meth := k5m0) (c := k5c0) (by decide +kernel) rfl rfl rfl (by decide +kernel)
set_option maxRecDepth 65536 in
theorem w_c14 : (Jvm.Cond.code ({ cls := "com/example/gentle_nudge/gentlenudge/server/ChannelOwner", name := "name", desc := "()Ljava/lang/String;" } : Jvm.MethodName) prog_12_method_8_code (1 : Nat) (Option.some (Jvm.ClassFile.FieldType.object "java/lang/String"))).before args0 about1 = true := code_word (m := ⟨8, 3⟩) (meth := k8m3) (c := k8c3) (by decide +kernel) rfl rfl rfl (by decide +kernel)
set_option maxRecDepth 65536 in
theorem w_c15 : (Jvm.Cond.code ({ cls := "java/lang/String", name := "equals", desc := "(Ljava/lang/Object;)Z" } : Jvm.MethodName) jdk_42_method_66_code (3 : Nat) (Option.some Jvm.ClassFile.FieldType.boolean)).before args0 about1 = true := code_word (m := ⟨11, 2⟩) (meth := k11m2) (c := k11c2) (by decide +kernel) rfl rfl rfl (by decide +kernel)
set_option maxRecDepth 65536 in
theorem w_c16 : (Jvm.Cond.code ({ cls := "java/lang/StringLatin1", name := "equals", desc := "([B[B)Z" } : Jvm.MethodName) jdk_43_method_13_code (3 : Nat) (Option.some Jvm.ClassFile.FieldType.boolean)).before args0 about1 = true := code_word (m := ⟨12, 2⟩) (meth := k12m2) (c := k12c2) (by decide +kernel) rfl rfl rfl (by decide +kernel)
set_option maxRecDepth 65536 in
theorem w_c17 : (Jvm.Cond.code ({ cls := "java/lang/StringUTF16", name := "compress", desc := "([CII)[B" } : Jvm.MethodName) jdk_52_method_16_code (6 : Nat) (Option.some (Jvm.ClassFile.FieldType.array Jvm.ClassFile.FieldType.byte))).before args0 about1 = true := code_word (m := ⟨14, 2⟩) (meth := k14m2) (c := k14c2) (by decide +kernel) rfl rfl rfl (by decide +kernel)
set_option maxRecDepth 65536 in
theorem w_c18 : (Jvm.Cond.code ({ cls := "java/lang/StringUTF16", name := "compress", desc := "([CI[BII)I" } : Jvm.MethodName) jdk_52_method_21_code (7 : Nat) (Option.some Jvm.ClassFile.FieldType.int)).before args0 about1 = true := code_word (m := ⟨14, 3⟩) (meth := k14m3) (c := k14c3) (by decide +kernel) rfl rfl rfl (by decide +kernel)
set_option maxRecDepth 65536 in
theorem w_c19 : (Jvm.Cond.code ({ cls := "java/lang/StringUTF16", name := "coderFromArrayLen", desc := "([BI)B" } : Jvm.MethodName) jdk_52_method_15_code (2 : Nat) (Option.some Jvm.ClassFile.FieldType.byte)).before args0 about1 = true := code_word (m := ⟨14, 1⟩) (meth := k14m1) (c := k14c1) (by decide +kernel) rfl rfl rfl (by decide +kernel)
def codes1 : List Jvm.Cond := [Jvm.Cond.code x code maxLocals ret, Jvm.Cond.code ({ cls := "java/lang/String", name := "valueOf", desc := "(C)Ljava/lang/String;" } : Jvm.MethodName) jdk_42_method_139_code (1 : Nat) (Option.some (Jvm.ClassFile.FieldType.object "java/lang/String")), Jvm.Cond.code ({ cls := "java/lang/StringLatin1", name := "canEncode", desc := "(C)Z" } : Jvm.MethodName) jdk_43_method_3_code (1 : Nat) (Option.some Jvm.ClassFile.FieldType.boolean), Jvm.Cond.code ({ cls := "java/lang/StringLatin1", name := "toBytes", desc := "(C)[B" } : Jvm.MethodName) jdk_43_method_46_code (1 : Nat) (Option.some (Jvm.ClassFile.FieldType.array Jvm.ClassFile.FieldType.byte)), Jvm.Cond.code ({ cls := "java/lang/String", name := "<init>", desc := "([BB)V" } : Jvm.MethodName) jdk_42_method_151_code (3 : Nat) (Option.none : Option Jvm.ClassFile.FieldType), Jvm.Cond.code ({ cls := "java/lang/Object", name := "<init>", desc := "()V" } : Jvm.MethodName) object_method_1_code (1 : Nat) (Option.none : Option Jvm.ClassFile.FieldType), Jvm.Cond.code ({ cls := "com/example/gentle_nudge/gentlenudge/server/ChannelOwnerMayStopChannelOfPinLaw", name := "mk", desc := "(ICC)Ljava/lang/String;" } : Jvm.MethodName) method_2_code (3 : Nat) (Option.some (Jvm.ClassFile.FieldType.object "java/lang/String")), Jvm.Cond.code ({ cls := "java/lang/String", name := "<init>", desc := "([C)V" } : Jvm.MethodName) jdk_42_method_3_code (2 : Nat) (Option.none : Option Jvm.ClassFile.FieldType), Jvm.Cond.code ({ cls := "java/lang/String", name := "<init>", desc := "([CIILjava/lang/Void;)V" } : Jvm.MethodName) jdk_42_method_149_code (6 : Nat) (Option.none : Option Jvm.ClassFile.FieldType), Jvm.Cond.code ({ cls := "com/example/gentle_nudge/gentlenudge/server/ChannelOwner", name := "<init>", desc := "(Ljava/lang/String;Lcom/example/gentle_nudge/gentlenudge/server/AccountKind;Ljava/lang/String;)V" } : Jvm.MethodName) prog_12_method_1_code (4 : Nat) (Option.none : Option Jvm.ClassFile.FieldType), Jvm.Cond.code ({ cls := "java/lang/Record", name := "<init>", desc := "()V" } : Jvm.MethodName) jdk_30_method_1_code (1 : Nat) (Option.none : Option Jvm.ClassFile.FieldType), Jvm.Cond.code ({ cls := "com/example/gentle_nudge/gentlenudge/server/ChannelOwner", name := "mayStopChannelOf", desc := "(Lcom/example/gentle_nudge/gentlenudge/server/ChannelOwner;)Z" } : Jvm.MethodName) prog_12_method_2_code (2 : Nat) (Option.some Jvm.ClassFile.FieldType.boolean), Jvm.Cond.code ({ cls := "com/example/gentle_nudge/gentlenudge/server/ChannelOwner", name := "kind", desc := "()Lcom/example/gentle_nudge/gentlenudge/server/AccountKind;" } : Jvm.MethodName) prog_12_method_7_code (1 : Nat) (Option.some (Jvm.ClassFile.FieldType.object "com/example/gentle_nudge/gentlenudge/server/AccountKind")), Jvm.Cond.code ({ cls := "java/lang/Enum", name := "ordinal", desc := "()I" } : Jvm.MethodName) jdk_37_method_2_code (1 : Nat) (Option.some Jvm.ClassFile.FieldType.int), Jvm.Cond.code ({ cls := "com/example/gentle_nudge/gentlenudge/server/ChannelOwner", name := "name", desc := "()Ljava/lang/String;" } : Jvm.MethodName) prog_12_method_8_code (1 : Nat) (Option.some (Jvm.ClassFile.FieldType.object "java/lang/String")), Jvm.Cond.code ({ cls := "java/lang/String", name := "equals", desc := "(Ljava/lang/Object;)Z" } : Jvm.MethodName) jdk_42_method_66_code (3 : Nat) (Option.some Jvm.ClassFile.FieldType.boolean), Jvm.Cond.code ({ cls := "java/lang/StringLatin1", name := "equals", desc := "([B[B)Z" } : Jvm.MethodName) jdk_43_method_13_code (3 : Nat) (Option.some Jvm.ClassFile.FieldType.boolean), Jvm.Cond.code ({ cls := "java/lang/StringUTF16", name := "compress", desc := "([CII)[B" } : Jvm.MethodName) jdk_52_method_16_code (6 : Nat) (Option.some (Jvm.ClassFile.FieldType.array Jvm.ClassFile.FieldType.byte)), Jvm.Cond.code ({ cls := "java/lang/StringUTF16", name := "compress", desc := "([CI[BII)I" } : Jvm.MethodName) jdk_52_method_21_code (7 : Nat) (Option.some Jvm.ClassFile.FieldType.int), Jvm.Cond.code ({ cls := "java/lang/StringUTF16", name := "coderFromArrayLen", desc := "([BI)B" } : Jvm.MethodName) jdk_52_method_15_code (2 : Nat) (Option.some Jvm.ClassFile.FieldType.byte)]
set_option maxRecDepth 65536 in
theorem codes_eq : words1.filter isCode = codes1 := rfl
theorem w_codes : ∀ c ∈ words1.filter isCode, c.before args0 about1 = true := by
  rw [codes_eq]
  intro c hc
  simp only [codes1, List.mem_cons, List.not_mem_nil, or_false] at hc
  rcases hc with rfl | rfl | rfl | rfl | rfl | rfl | rfl | rfl | rfl | rfl | rfl | rfl | rfl | rfl | rfl | rfl | rfl | rfl | rfl | rfl
  · exact w_c0
  · exact w_c1
  · exact w_c2
  · exact w_c3
  · exact w_c4
  · exact w_c5
  · exact w_c6
  · exact w_c7
  · exact w_c8
  · exact w_c9
  · exact w_c10
  · exact w_c11
  · exact w_c12
  · exact w_c13
  · exact w_c14
  · exact w_c15
  · exact w_c16
  · exact w_c17
  · exact w_c18
  · exact w_c19
set_option maxRecDepth 65536 in
theorem w_t1 : (words1.take 24).all (fun c => isCode c || c.before args0 about1) = true := by decide +kernel
set_option maxRecDepth 65536 in
theorem w_t2 : ((words1.drop 24).take 24).all (fun c => isCode c || c.before args0 about1) = true := by decide +kernel
set_option maxRecDepth 65536 in
theorem w_t3 : (((words1.drop 24).drop 24).take 24).all (fun c => isCode c || c.before args0 about1) = true := by decide +kernel
set_option maxRecDepth 65536 in
theorem w_t4 : ((((words1.drop 24).drop 24).drop 24).take 24).all (fun c => isCode c || c.before args0 about1) = true := by decide +kernel
set_option maxRecDepth 65536 in
theorem w_t5 : ((((words1.drop 24).drop 24).drop 24).drop 24).all (fun c => isCode c || c.before args0 about1) = true := by decide +kernel
theorem w_tables : (allAtoms (Jvm.Cond.code x code maxLocals ret :: tables_1)).before args0 about1 = true := by
  rw [allAtoms_all]
  show words1.all (fun c => c.before args0 about1) = true
  refine all_split ?_ w_codes
  rw [← List.take_append_drop 24 words1, List.all_append, w_t1, ← List.take_append_drop 24 (words1.drop 24), List.all_append, w_t2, ← List.take_append_drop 24 ((words1.drop 24).drop 24), List.all_append, w_t3, ← List.take_append_drop 24 (((words1.drop 24).drop 24).drop 24), List.all_append, w_t4, w_t5]
  rfl
set_option maxRecDepth 65536 in
theorem w_rest : rest_1_c.before args0 about1 = true := by decide +kernel
set_option maxRecDepth 65536 in
theorem w_case : (Jvm.Cond.and given_1 narrow_1).before args0 about1 = true := by decide +kernel
set_option maxRecDepth 65536 in
theorem w_consts : constsHeld consts_1 about1 := Jvm.Lit.constsHeldB_iff.mp (by decide +kernel)
theorem w_applies : (headSpec (Jvm.Cond.code x code maxLocals ret :: tables_1) room_1).applies x e0.platform about1 = true :=
  (Spec.applies_iff w_frames).mpr ⟨w_running, w_runnable, w_alone, w_named, w_hears, w_ripe, w_room, w_tables⟩
theorem atStart : AtStart classFile x code maxLocals ret World_1 tables_1 room_1 Calls_1 rest_1 Pre_1 launch0 p0 e0 about1 theMethod args0 below0 :=
  ⟨lists_1, trivial, launch0.admits_env _ _ _, launch0.least_env, fairChoices_fair.cas, fairChoices_fair.clock, w_frames, w_args, w_heap, w_applies, ⟨w_consts, trivial⟩, w_rest, w_case⟩
end start1
theorem witness_1 : WitnessClaimed_1 := ⟨start1.p0, start1.e0, start1.about1, start1.theMethod, start1.args0, start1.below0, start1.atStart⟩
end Jvm.Pilot.@@N@@
