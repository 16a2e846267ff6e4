import JvmDerived
import JvmDerived.Pilot.@@N@@Statement
import JvmDerived.Pilot.@@N@@Code
set_option linter.unusedVariables false
set_option linter.unusedSimpArgs false
/- laws to paste: Road.backV, Road.eqW, Road.codOf (cut by pick.py; bodies as the Statement names them) -/
namespace Jvm.Pilot.@@N@@
namespace StrChars
open Jvm Sem ClassFile Op Lib Jvm.Stand Jvm.Free.XT Jvm.Free.ALB Jvm.Free.JM Jvm.Free
open Jvm.Lib.Cold (StaticIs)
/-- a char array whose places are chars -/
def Ch (a : Addr) (A : Cell) (U : State) : Prop := Arr .char a A U ∧ Typed .char A
theorem Ch.mv {a : Addr} {A : Cell} {U U' : State} (h : Ch a A U) (hal : U.vm.Alike U'.vm) (hh : U'.heap = U.heap) : Ch a A U' := ⟨h.1.mv hal hh, h.2⟩
theorem Ch.keep {a : Addr} {A : Cell} {U U' : State} (h : Ch a A U) (hal : U.vm.Alike U'.vm) (hk : U'.heap[a]? = some A) : Ch a A U' := ⟨h.1.keep hal hk, h.2⟩
/-- what place i of a char[]'s cell holds -/
def cv (A : Cell) (i : Nat) : Int32 := match A.slots[i]? with | some (.int x) => x | _ => 0
theorem Ch.get {a : Addr} {A : Cell} {U : State} (h : Ch a A U) {i : Nat} (hi : i < A.slots.size) : A.slots[i]? = some (.int (cv A i)) := by
  have e := Array.getElem?_eq_getElem hi
  have f := h.2 i _ e
  unfold cv; rw [e]
  generalize A.slots[i] = v at f
  cases v <;> simp [fits] at f ⊢
/-- the byte that i2b leaves of a char -/
def lo8 (x : Int32) : Int32 := x.toInt8.toInt32
theorem fits_lo8 (y : Int32) : fits .byte (.int (lo8 y)) = true := by
  have h1 := y.toInt8.le_toInt
  have h2 := y.toInt8.toInt_lt
  simp only [lo8, fits, Bool.and_eq_true, decide_eq_true_eq, Int32.le_iff_toInt_le, Int8.toInt_toInt32, show (-128 : Int32).toInt = -128 from by decide, show (127 : Int32).toInt = 127 from by decide]
  omega
/-- A' is A but that each place j of lo .. hi - 1 holds f j -/
def Laid (A A' : Cell) (lo hi : Nat) (f : Nat → Value) : Prop := A'.cls = A.cls ∧ A'.vm = A.vm ∧ A'.slots.size = A.slots.size ∧ ∀ i, A'.slots[i]? = if lo ≤ i ∧ i < hi then some (f i) else A.slots[i]?
theorem Laid.zero (A : Cell) (lo : Nat) (f : Nat → Value) : Laid A A lo (lo + 0) f := ⟨rfl, rfl, rfl, fun i => by rw [if_neg (by omega)]⟩
theorem Laid.step {A Ak : Cell} {lo k : Nat} {f : Nat → Value} {v : Value} (h : Laid A Ak lo k f) (hlo : lo ≤ k) (hk : k < Ak.slots.size) (hv : v = f k) : Laid A (Ak.setSlot k v) lo (k + 1) f := by
  refine ⟨h.1, h.2.1, by simpa [Cell.setSlot] using h.2.2.1, fun i => ?_⟩
  by_cases e : k = i
  · subst e; rw [Cell.slots_setSlot_self v hk, if_pos (by omega), hv]
  · rw [Cell.slots_setSlot_ne v e, h.2.2.2 i]
    by_cases q : lo ≤ i ∧ i < k
    · rw [if_pos q, if_pos (by omega)]
    · rw [if_neg q, if_neg (by omega)]
def U16 : String := "java/lang/StringUTF16"
namespace Cmp5
def yN : MethodName := ⟨"java/lang/StringUTF16", "compress", "([CI[BII)I"⟩
abbrev yB : ByteArray := jdk_52_method_21_code
theorem d0 : decode yB 0 = .ok (.iconst 0, 1) := by decide +kernel
theorem d1 : decode yB 1 = .ok (.istore 5, 2) := by decide +kernel
theorem d3 : decode yB 3 = .ok (.iload 5, 2) := by decide +kernel
theorem d5 : decode yB 5 = .ok (.iload 4, 2) := by decide +kernel
theorem d7 : decode yB 7 = .ok (.if_icmp (.ge) 37, 3) := by decide +kernel
theorem d10 : decode yB 10 = .ok (.aload_n 0, 1) := by decide +kernel
theorem d11 : decode yB 11 = .ok (.iload_n 1, 1) := by decide +kernel
theorem d12 : decode yB 12 = .ok (.caload, 1) := by decide +kernel
theorem d13 : decode yB 13 = .ok (.istore 6, 2) := by decide +kernel
theorem d15 : decode yB 15 = .ok (.iload 6, 2) := by decide +kernel
theorem d17 : decode yB 17 = .ok (.sipush 255, 3) := by decide +kernel
theorem d20 : decode yB 20 = .ok (.if_icmp (.le) 6, 3) := by decide +kernel
theorem d26 : decode yB 26 = .ok (.aload_n 2, 1) := by decide +kernel
theorem d27 : decode yB 27 = .ok (.iload_n 3, 1) := by decide +kernel
theorem d28 : decode yB 28 = .ok (.iload 6, 2) := by decide +kernel
theorem d30 : decode yB 30 = .ok (.i2b, 1) := by decide +kernel
theorem d31 : decode yB 31 = .ok (.bastore, 1) := by decide +kernel
theorem d32 : decode yB 32 = .ok (.iinc 1 1, 3) := by decide +kernel
theorem d35 : decode yB 35 = .ok (.iinc 3 1, 3) := by decide +kernel
theorem d38 : decode yB 38 = .ok (.iinc 5 1, 3) := by decide +kernel
theorem d41 : decode yB 41 = .ok (.goto (-38), 3) := by decide +kernel
theorem d44 : decode yB 44 = .ok (.iload 4, 2) := by decide +kernel
theorem d46 : decode yB 46 = .ok (.ireturn, 1) := by decide +kernel
def site : List Cond := []
def tab : Cond := tabOf yN yB 7 (some .int) site
def P (b : Addr) (A : Cell) (d : Addr) (B : Cell) (o q len : Nat) (args : Array Value) (s : State) : Prop := args = #[.ref b, .int (Int32.ofNat o), .ref d, .int (Int32.ofNat q), .int (Int32.ofNat len)] ∧ Ch b A s ∧ Arr .byte d B s ∧ b ≠ d ∧ o + len ≤ A.slots.size ∧ q + len ≤ B.slots.size ∧ ∀ i, i < len → ¬ 255 < cv A (o + i)
def E (b : Addr) (A : Cell) (d : Addr) (B : Cell) (o q len : Nat) (r : Option Value) (s u : State) : Prop := r = some (.int (Int32.ofNat len)) ∧ ∃ B', Put d B' s u ∧ Laid B B' q (q + len) (fun j => Value.int (lo8 (cv A (o + (j - q)))))
/-- no char of the range above 255: len; the places written hold each char's low byte -/
theorem law (l : Launch) (b : Addr) (A : Cell) (d : Addr) (B : Cell) (o q len : Nat) : Law l yN 5 5 0 0 yB 7 (some .int) site (P b A d B o q len) (E b A d B o q len) (copyLocs d q len) 0 0 := by
  refine Law.of_walk (plainFor_of_name (by decide +kernel)) (by decide +kernel) (by decide +kernel) (by decide) (fun _ _ h => by rw [h.1]; rfl) (fun _ U U' hal hh h => ⟨h.1, h.2.1.mv hal hh, h.2.2.1.mv hal hh, h.2.2.2⟩) (fun r U U' V V' h1 hal h2 h => ⟨h.1, h.2.elim fun B' q => ⟨B', q.1.mv h1 h2, q.2⟩⟩) ?_
  intro p e s m args below meth c s₁ X0 hexec hbytes hml hret hlk hnm hown hh0 W hP
  obtain ⟨rfl, hA, hB, hne, l1, l2, hp⟩ := hP
  have c1 : Steps p.tables e below (s₁.setTop (entryFrame m #[.ref b, .int (Int32.ofNat o), .ref d, .int (Int32.ofNat q), .int (Int32.ofNat len)] 7)) (s₁.setTop (mkF m 0 #[.val (.ref b), .val (.int (Int32.ofNat o)), .val (.ref d), .val (.int (Int32.ofNat q)), .val (.int (Int32.ofNat len)), .unset, .unset] [])) := entry rfl
  have hA0 := hA.1.mv X0.warmed.alike hh0
  have hB0 := hB.mv X0.warmed.alike hh0
  have a31 := hA.1.2.2.2
  have c2 : Steps p.tables e below (s₁.setTop (entryFrame m #[.ref b, .int (Int32.ofNat o), .ref d, .int (Int32.ofNat q), .int (Int32.ofNat len)] 7)) (s₁.setTop (mkF m 3 #[.val (.ref b), .val (.int (Int32.ofNat o)), .val (.ref d), .val (.int (Int32.ofNat q)), .val (.int (Int32.ofNat len)), .val (.int 0), .unset] [])) := c1.trans (by
    refine iconstV X0.here hexec rfl 0 (hb hbytes d0) (by decide) ?_
    refine XS.istore X0.here hexec rfl (hb hbytes d1) rfl rfl ?_
    exact Steps.refl _)
  have loop : ∀ (r i : Nat), i + r = len → ∀ (z : Slot), (z = .unset ∨ ∃ w, z = .val w ∧ w.category = 1) → ∀ (Tl : State) (Bk : Cell), Stand p l e { frames := 0, locals := 0, cells := 0, slots := 0 } s m #[.ref b, .int (Int32.ofNat o), .ref d, .int (Int32.ofNat q), .int (Int32.ofNat len)] below meth c Tl ([] ++ copyLocs d q i) 0 0 → Put d Bk s₁ Tl → Laid B Bk q (q + i) (fun j => Value.int (lo8 (cv A (o + (j - q))))) →
      Steps p.tables e below (s₁.setTop (entryFrame m #[.ref b, .int (Int32.ofNat o), .ref d, .int (Int32.ofNat q), .int (Int32.ofNat len)] 7)) (Tl.setTop (mkF m 3 #[.val (.ref b), .val (.int (Int32.ofNat (o + i))), .val (.ref d), .val (.int (Int32.ofNat (q + i))), .val (.int (Int32.ofNat len)), .val (.int (Int32.ofNat i)), z] [])) → ∃ (T' : State) (B' : Cell) (z' : Slot), Stand p l e { frames := 0, locals := 0, cells := 0, slots := 0 } s m #[.ref b, .int (Int32.ofNat o), .ref d, .int (Int32.ofNat q), .int (Int32.ofNat len)] below meth c T' ([] ++ copyLocs d q len) 0 0 ∧ Put d B' s₁ T' ∧ Laid B B' q (q + len) (fun j => Value.int (lo8 (cv A (o + (j - q))))) ∧
      Steps p.tables e below (s₁.setTop (entryFrame m #[.ref b, .int (Int32.ofNat o), .ref d, .int (Int32.ofNat q), .int (Int32.ofNat len)] 7)) (T'.setTop (mkF m 3 #[.val (.ref b), .val (.int (Int32.ofNat (o + len))), .val (.ref d), .val (.int (Int32.ofNat (q + len))), .val (.int (Int32.ofNat len)), .val (.int (Int32.ofNat len)), z'] [])) := by
    intro r
    induction r with
    | zero =>
      intro i hi z hz Tl Bk Xl pl fl cl
      have hil : i = len := by omega
      rw [hil] at Xl fl cl
      exact ⟨Tl, Bk, z, Xl, pl, fl, cl⟩
    | succ r ih =>
      intro i hi z hz Tl Bk Xl pl fl cl
      have all := X0.warmed.alike.symm.trans Xl.warmed.alike
      have hAl := hA0.keep all (pl.other hne hA0.1)
      have hBk := hB0.like all pl.1 fl.1 fl.2.1 fl.2.2.1
      have hlt : q + i < Bk.slots.size := by rw [fl.2.2.1]; omega
      have c3 : Steps p.tables e below (s₁.setTop (entryFrame m #[.ref b, .int (Int32.ofNat o), .ref d, .int (Int32.ofNat q), .int (Int32.ofNat len)] 7)) (Tl.setTop (mkF m 12 #[.val (.ref b), .val (.int (Int32.ofNat (o + i))), .val (.ref d), .val (.int (Int32.ofNat (q + i))), .val (.int (Int32.ofNat len)), .val (.int (Int32.ofNat i)), z] [.int (Int32.ofNat (o + i)), .ref b])) := cl.trans (by
        refine XS.iload Xl.here hexec rfl (hb hbytes d3) rfl ?_
        refine XS.iload Xl.here hexec rfl (hb hbytes d5) rfl ?_
        refine XS.icmpNo Xl.here hexec rfl (hb hbytes d7) rfl (ii_ge_f (lt32 (by omega) (by omega))) ?_
        refine XS.aloadN Xl.here hexec rfl (hb hbytes d10) rfl rfl ?_
        refine XS.iloadN Xl.here hexec rfl (hb hbytes d11) rfl ?_
        exact Steps.refl _)
      have c4 : Steps p.tables e below (s₁.setTop (entryFrame m #[.ref b, .int (Int32.ofNat o), .ref d, .int (Int32.ofNat q), .int (Int32.ofNat len)] 7)) (Tl.setTop (mkF m 13 #[.val (.ref b), .val (.int (Int32.ofNat (o + i))), .val (.ref d), .val (.int (Int32.ofNat (q + i))), .val (.int (Int32.ofNat len)), .val (.int (Int32.ofNat i)), z] [.int (cv A (o + i))])) := c3.trans (by
        refine Xl.aget hexec hAl rfl (hA.get (i := o + i) (by omega)) rfl rfl (hb hbytes d12) ?_
        exact Steps.refl _)
      have c5 : Steps p.tables e below (s₁.setTop (entryFrame m #[.ref b, .int (Int32.ofNat o), .ref d, .int (Int32.ofNat q), .int (Int32.ofNat len)] 7)) (Tl.setTop (mkF m 15 #[.val (.ref b), .val (.int (Int32.ofNat (o + i))), .val (.ref d), .val (.int (Int32.ofNat (q + i))), .val (.int (Int32.ofNat len)), .val (.int (Int32.ofNat i)), .val (.int (cv A (o + i)))] [])) := c4.trans (by
        refine XS.istoreS Xl.here hexec rfl (hb hbytes d13) rfl rfl hz ?_
        exact Steps.refl _)
      have c6 : Steps p.tables e below (s₁.setTop (entryFrame m #[.ref b, .int (Int32.ofNat o), .ref d, .int (Int32.ofNat q), .int (Int32.ofNat len)] 7)) (Tl.setTop (mkF m 31 #[.val (.ref b), .val (.int (Int32.ofNat (o + i))), .val (.ref d), .val (.int (Int32.ofNat (q + i))), .val (.int (Int32.ofNat len)), .val (.int (Int32.ofNat i)), .val (.int (cv A (o + i)))] [.int (lo8 (cv A (o + i))), .int (Int32.ofNat (q + i)), .ref d])) := c5.trans (by
        refine XS.iload Xl.here hexec rfl (hb hbytes d15) rfl ?_
        refine sipushV Xl.here hexec rfl 255 (hb hbytes d17) (by decide) ?_
        refine XS.icmpYes Xl.here hexec rfl (pc0 := 20) rfl (hb hbytes d20) rfl (ii_le_t (hp i (by omega))) (by decide) rfl ?_
        refine XS.aloadN Xl.here hexec rfl (hb hbytes d26) rfl rfl ?_
        refine XS.iloadN Xl.here hexec rfl (hb hbytes d27) rfl ?_
        refine XS.iload Xl.here hexec rfl (hb hbytes d28) rfl ?_
        refine i2b Xl.here hexec rfl (hb hbytes d30) rfl ?_
        exact Steps.refl _)
      obtain ⟨T7, X7, p7, st7⟩ := Xl.aput hexec hBk rfl hlt rfl (fits_lo8 (cv A (o + i))) (g := (mkF m 31 #[.val (.ref b), .val (.int (Int32.ofNat (o + i))), .val (.ref d), .val (.int (Int32.ofNat (q + i))), .val (.int (Int32.ofNat len)), .val (.int (Int32.ofNat i)), .val (.int (cv A (o + i)))] [.int (lo8 (cv A (o + i))), .int (Int32.ofNat (q + i)), .ref d])) rfl (rest := []) rfl (hb hbytes d31)
      have c8 : Steps p.tables e below (s₁.setTop (entryFrame m #[.ref b, .int (Int32.ofNat o), .ref d, .int (Int32.ofNat q), .int (Int32.ofNat len)] 7)) (T7.setTop (mkF m 32 #[.val (.ref b), .val (.int (Int32.ofNat (o + i))), .val (.ref d), .val (.int (Int32.ofNat (q + i))), .val (.int (Int32.ofNat len)), .val (.int (Int32.ofNat i)), .val (.int (cv A (o + i)))] [])) := c6.trans (st7 _ (Steps.refl _))
      have c9 : Steps p.tables e below (s₁.setTop (entryFrame m #[.ref b, .int (Int32.ofNat o), .ref d, .int (Int32.ofNat q), .int (Int32.ofNat len)] 7)) (T7.setTop (mkF m 3 #[.val (.ref b), .val (.int (Int32.ofNat (o + i) + 1)), .val (.ref d), .val (.int (Int32.ofNat (q + i) + 1)), .val (.int (Int32.ofNat len)), .val (.int (Int32.ofNat i + 1)), .val (.int (cv A (o + i)))] [])) := c8.trans (by
        refine iincV X7.here hexec rfl 1 (hb hbytes d32) (by decide) rfl rfl ?_
        refine iincV X7.here hexec rfl 1 (hb hbytes d35) (by decide) rfl rfl ?_
        refine iincV X7.here hexec rfl 1 (hb hbytes d38) (by decide) rfl rfl ?_
        refine XS.goto X7.here hexec rfl (pc0 := 41) rfl (hb hbytes d41) (by decide) rfl ?_
        exact Steps.refl _)
      have c10 : Steps p.tables e below (s₁.setTop (entryFrame m #[.ref b, .int (Int32.ofNat o), .ref d, .int (Int32.ofNat q), .int (Int32.ofNat len)] 7)) (T7.setTop (mkF m 3 #[.val (.ref b), .val (.int (Int32.ofNat (o + (i + 1)))), .val (.ref d), .val (.int (Int32.ofNat (q + (i + 1)))), .val (.int (Int32.ofNat len)), .val (.int (Int32.ofNat (i + 1))), .val (.int (cv A (o + i)))] [])) := by
        have := c9
        rw [succ32, succ32, succ32] at this
        exact this
      exact ih (i + 1) (by omega) _ (Or.inr ⟨_, rfl, rfl⟩) T7 _ (by rw [copyLocs_step, ← List.append_assoc]; exact X7) (pl.trans p7) (fl.step (by omega) hlt (by simp)) c10
  obtain ⟨T9, B9, z9, X9, p9, f9, g9⟩ := loop len 0 (by omega) .unset (Or.inl rfl) s₁ B (by simpa [copyLocs] using X0) ⟨hB0.1, fun _ _ => rfl, rfl⟩ (Laid.zero _ _ _) c2
  have c11 : Steps p.tables e below (s₁.setTop (entryFrame m #[.ref b, .int (Int32.ofNat o), .ref d, .int (Int32.ofNat q), .int (Int32.ofNat len)] 7)) (T9.setTop (mkF m 46 #[.val (.ref b), .val (.int (Int32.ofNat (o + len))), .val (.ref d), .val (.int (Int32.ofNat (q + len))), .val (.int (Int32.ofNat len)), .val (.int (Int32.ofNat len)), z9] [.int (Int32.ofNat len)])) := g9.trans (by
    refine XS.iload X9.here hexec rfl (hb hbytes d3) rfl ?_
    refine XS.iload X9.here hexec rfl (hb hbytes d5) rfl ?_
    refine XS.icmpYes X9.here hexec rfl (pc0 := 7) rfl (hb hbytes d7) rfl (ii_ge_t (nlt32 (by omega) (Nat.le_refl _))) (by decide) rfl ?_
    refine XS.iload X9.here hexec rfl (hb hbytes d44) rfl ?_
    exact Steps.refl _)
  exact ⟨T9, some (.int (Int32.ofNat len)), _, _, _, X9, by simp, rfl, rfl, (fun h => by cases h), ⟨rfl, B9, p9.from hh0, f9⟩, fun fs hl => c11.trans (X9.ireturnOut hexec hret rfl (Or.inl rfl) (hb hbytes d46) hl)⟩
end Cmp5
namespace Cmp3
def yN : MethodName := ⟨"java/lang/StringUTF16", "compress", "([CII)[B"⟩
abbrev yB : ByteArray := jdk_52_method_16_code
theorem d0 : decode yB 0 = .ok (.iload_n 2, 1) := by decide +kernel
theorem d1 : decode yB 1 = .ok (.newarray .byte, 2) := by decide +kernel
theorem d3 : decode yB 3 = .ok (.astore_n 3, 1) := by decide +kernel
theorem d4 : decode yB 4 = .ok (.aload_n 0, 1) := by decide +kernel
theorem d5 : decode yB 5 = .ok (.iload_n 1, 1) := by decide +kernel
theorem d6 : decode yB 6 = .ok (.aload_n 3, 1) := by decide +kernel
theorem d7 : decode yB 7 = .ok (.iconst 0, 1) := by decide +kernel
theorem d8 : decode yB 8 = .ok (.iload_n 2, 1) := by decide +kernel
theorem d9 : decode yB 9 = .ok (.invokestatic 115, 3) := by decide +kernel
theorem d12 : decode yB 12 = .ok (.istore 4, 2) := by decide +kernel
theorem d14 : decode yB 14 = .ok (.iload 4, 2) := by decide +kernel
theorem d16 : decode yB 16 = .ok (.iload_n 2, 1) := by decide +kernel
theorem d17 : decode yB 17 = .ok (.if_icmp (.eq) 40, 3) := by decide +kernel
theorem d57 : decode yB 57 = .ok (.aload_n 3, 1) := by decide +kernel
theorem d58 : decode yB 58 = .ok (.areturn, 1) := by decide +kernel
def site : List Cond := [.arrayClass .byte, Cmp5.tab] ++ staticW U16 115 Cmp5.yN
def tab : Cond := tabOf yN yB 6 (some (.array .byte)) site
def P (b : Addr) (A : Cell) (o len : Nat) (args : Array Value) (s : State) : Prop := args = #[.ref b, .int (Int32.ofNat o), .int (Int32.ofNat len)] ∧ Ch b A s ∧ o + len ≤ A.slots.size ∧ len ≤ 536870912 ∧ ∀ i, i < len → ¬ 255 < cv A (o + i)
def E (b : Addr) (A : Cell) (o len : Nat) (r : Option Value) (s u : State) : Prop := NewArr .byte "[B" len (fun j => .int (lo8 (cv A (o + j)))) r s u ∧ u.heap.size = s.heap.size + 1
/-- no char of the range above 255: a new byte[] of their low bytes -/
theorem law (l : Launch) (b : Addr) (A : Cell) (o len : Nat) : Law l yN 3 3 1 18 yB 6 (some (.array .byte)) site (P b A o len) (E b A o len) [] 1 len := by
  refine Law.of_walk (plainFor_of_name (by decide +kernel)) (by decide +kernel) (by decide +kernel) (by decide) (fun _ _ h => by rw [h.1]; rfl) (fun _ U U' hal hh h => ⟨h.1, h.2.1.mv hal hh, h.2.2⟩) (fun r U U' V V' h1 hal h2 h => ⟨NewArr.mv r U U' V V' h1 hal h2 h.1, by rw [h1, h2]; exact h.2⟩) ?_
  intro p e s m args below meth c s₁ X0 hexec hbytes hml hret hlk hnm hown hh0 W hP
  obtain ⟨rfl, hA, l1, l2, hp⟩ := hP
  have a31 := hA.1.2.2.2
  have c1 : Steps p.tables e below (s₁.setTop (entryFrame m #[.ref b, .int (Int32.ofNat o), .int (Int32.ofNat len)] 6)) (s₁.setTop (mkF m 0 #[.val (.ref b), .val (.int (Int32.ofNat o)), .val (.int (Int32.ofNat len)), .unset, .unset, .unset] [])) := entry rfl
  have c2 : Steps p.tables e below (s₁.setTop (entryFrame m #[.ref b, .int (Int32.ofNat o), .int (Int32.ofNat len)] 6)) (s₁.setTop (mkF m 1 #[.val (.ref b), .val (.int (Int32.ofNat o)), .val (.int (Int32.ofNat len)), .unset, .unset, .unset] [.int (Int32.ofNat len)])) := c1.trans (by
    refine XS.iloadN X0.here hexec rfl (hb hbytes d0) rfl ?_
    exact Steps.refl _)
  obtain ⟨T3, B3, X3, ba3, bs3, bv3, bh3, bf3, st3⟩ := X0.anew hexec (atype := .byte) (wk W (.arrayClass .byte)) rfl (by show len * 1 ≤ _; omega) (by omega) (g := (mkF m 1 #[.val (.ref b), .val (.int (Int32.ofNat o)), .val (.int (Int32.ofNat len)), .unset, .unset, .unset] [.int (Int32.ofNat len)])) rfl (hb hbytes d1) (rest := []) rfl (Nat.le_refl _) (by show 0 + len ≤ len; omega)
  rw [hh0] at ba3 st3
  have kp3 : XT.Kept s T3 := (XT.Kept.of_eq hh0).push bh3
  have hA3 := hA.keep X3.warmed.alike (kp3 _ _ hA.1.1)
  have hne : b ≠ s.heap.size := hA.1.ne
  have c4 : Steps p.tables e below (s₁.setTop (entryFrame m #[.ref b, .int (Int32.ofNat o), .int (Int32.ofNat len)] 6)) (T3.setTop (mkF m 3 #[.val (.ref b), .val (.int (Int32.ofNat o)), .val (.int (Int32.ofNat len)), .unset, .unset, .unset] [.ref s.heap.size])) := c2.trans (st3 _ (Steps.refl _))
  have c5 : Steps p.tables e below (s₁.setTop (entryFrame m #[.ref b, .int (Int32.ofNat o), .int (Int32.ofNat len)] 6)) (T3.setTop (mkF m 9 #[.val (.ref b), .val (.int (Int32.ofNat o)), .val (.int (Int32.ofNat len)), .val (.ref s.heap.size), .unset, .unset] [.int (Int32.ofNat len), .int 0, .ref s.heap.size, .int (Int32.ofNat o), .ref b])) := c4.trans (by
    refine XS.astoreN X3.here hexec rfl (hb hbytes d3) rfl rfl rfl ?_
    refine XS.aloadN X3.here hexec rfl (hb hbytes d4) rfl rfl ?_
    refine XS.iloadN X3.here hexec rfl (hb hbytes d5) rfl ?_
    refine XS.aloadN X3.here hexec rfl (hb hbytes d6) rfl rfl ?_
    refine iconstV X3.here hexec rfl 0 (hb hbytes d7) (by decide) ?_
    refine XS.iloadN X3.here hexec rfl (hb hbytes d8) rfl ?_
    exact Steps.refl _)
  obtain ⟨v6, T6, X6, E6, g6⟩ := X3.callS hexec (Cmp5.law l b A s.heap.size B3 o 0 len) hown (wks W (staticW U16 115 Cmp5.yN)) (wk W Cmp5.tab) (W := 0) (Nat.le_of_ble_eq_true rfl) (Nat.le_of_ble_eq_true rfl) (Nat.le_refl _) (by show 0 + len + 0 ≤ len; omega) (g := (mkF m 9 #[.val (.ref b), .val (.int (Int32.ofNat o)), .val (.int (Int32.ofNat len)), .val (.ref s.heap.size), .unset, .unset] [.int (Int32.ofNat len), .int (Int32.ofNat 0), .ref s.heap.size, .int (Int32.ofNat o), .ref b])) rfl (by rw [hml]; rfl) c5 (argsL := [.ref b, .int (Int32.ofNat o), .ref s.heap.size, .int (Int32.ofNat 0), .int (Int32.ofNat len)]) (rest := []) rfl rfl (by show 2 * 0 + 0 ≤ _; decide) (hb hbytes d9) (⟨rfl, hA3, ba3, hne, l1, by rw [bs3]; simp, hp⟩)
  obtain ⟨rfl, B6, p6, f6⟩ := E6
  have c7 : Steps p.tables e below (s₁.setTop (entryFrame m #[.ref b, .int (Int32.ofNat o), .int (Int32.ofNat len)] 6)) (T6.setTop (mkF m 12 #[.val (.ref b), .val (.int (Int32.ofNat o)), .val (.int (Int32.ofNat len)), .val (.ref s.heap.size), .unset, .unset] [.int (Int32.ofNat len)])) := g6
  have c8 : Steps p.tables e below (s₁.setTop (entryFrame m #[.ref b, .int (Int32.ofNat o), .int (Int32.ofNat len)] 6)) (T6.setTop (mkF m 58 #[.val (.ref b), .val (.int (Int32.ofNat o)), .val (.int (Int32.ofNat len)), .val (.ref s.heap.size), .val (.int (Int32.ofNat len)), .unset] [.ref s.heap.size])) := c7.trans (by
    refine XS.istore X6.here hexec rfl (hb hbytes d12) rfl rfl ?_
    refine XS.iload X6.here hexec rfl (hb hbytes d14) rfl ?_
    refine XS.iloadN X6.here hexec rfl (hb hbytes d16) rfl ?_
    refine XS.icmpYes X6.here hexec rfl (pc0 := 17) rfl (hb hbytes d17) rfl (ii_eq_t rfl) (by decide) rfl ?_
    refine XS.aloadN X6.here hexec rfl (hb hbytes d57) rfl rfl ?_
    exact Steps.refl _)
  have X8 := X6.wide (L' := []) (cells' := 1) (slots' := len) (fun x hx hlt => by
    simp only [List.nil_append, copyLocs, List.mem_map, List.mem_range] at hx
    obtain ⟨i, -, rfl⟩ := hx
    exact absurd hlt (Nat.lt_irrefl _)) (Nat.le_refl _) (by omega)
  exact ⟨T6, some (.ref s.heap.size), _, _, _, X8, rfl, rfl, rfl, (fun h => by cases h), ⟨⟨rfl, B6, ba3.like (X3.warmed.alike.symm.trans X6.warmed.alike) p6.1 f6.1 f6.2.1 f6.2.2.1, f6.2.1.trans bv3, by rw [X6.warmed.alike.findClass, f6.1]; exact bf3, by rw [f6.2.2.1, bs3]; simp, fun j hj => by rw [f6.2.2.2 j, if_pos (by omega)]; rfl, kp3.put p6 (Nat.le_refl _)⟩, by rw [p6.2.2, bh3, hh0]; simp⟩, fun fs hl => c8.trans (X8.areturnOut hexec rfl hret rfl (hb hbytes d58) hl)⟩
end Cmp3
namespace CodL
def yN : MethodName := ⟨"java/lang/StringUTF16", "coderFromArrayLen", "([BI)B"⟩
abbrev yB : ByteArray := jdk_52_method_15_code
theorem d0 : decode yB 0 = .ok (.iload_n 1, 1) := by decide +kernel
theorem d1 : decode yB 1 = .ok (.aload_n 0, 1) := by decide +kernel
theorem d2 : decode yB 2 = .ok (.arraylength, 1) := by decide +kernel
theorem d3 : decode yB 3 = .ok (.isub, 1) := by decide +kernel
theorem d4 : decode yB 4 = .ok (.bipush 31, 2) := by decide +kernel
theorem d6 : decode yB 6 = .ok (.iushr, 1) := by decide +kernel
theorem d7 : decode yB 7 = .ok (.i2b, 1) := by decide +kernel
theorem d8 : decode yB 8 = .ok (.ireturn, 1) := by decide +kernel
def site : List Cond := []
def tab : Cond := tabOf yN yB 2 (some .byte) site
def P (d : Addr) (B : Cell) (args : Array Value) (s : State) : Prop := args = #[.ref d, .int (Int32.ofNat B.slots.size)] ∧ Arr .byte d B s
def E (r : Option Value) (s u : State) : Prop := XT.PureE (some (.int 0)) r s u
/-- an array as long as the number of chars: LATIN1 -/
theorem law (l : Launch) (d : Addr) (B : Cell) : Law l yN 2 2 0 0 yB 2 (some .byte) site (P d B) E [] 0 0 := by
  refine Law.of_walk (plainFor_of_name (by decide +kernel)) (by decide +kernel) (by decide +kernel) (by decide) (fun _ _ h => by rw [h.1]; rfl) (fun _ U U' hal hh h => ⟨h.1, h.2.mv hal hh⟩) (fun r U U' V V' h1 hal h2 h => XT.PureE.mv r U U' V V' h1 hal h2 h) ?_
  intro p e s m args below meth c s₁ X0 hexec hbytes hml hret hlk hnm hown hh0 W hP
  obtain ⟨rfl, hB⟩ := hP
  have hB0 := hB.mv X0.warmed.alike hh0
  have c1 : Steps p.tables e below (s₁.setTop (entryFrame m #[.ref d, .int (Int32.ofNat B.slots.size)] 2)) (s₁.setTop (mkF m 0 #[.val (.ref d), .val (.int (Int32.ofNat B.slots.size))] [])) := entry rfl
  have c2 : Steps p.tables e below (s₁.setTop (entryFrame m #[.ref d, .int (Int32.ofNat B.slots.size)] 2)) (s₁.setTop (mkF m 2 #[.val (.ref d), .val (.int (Int32.ofNat B.slots.size))] [.ref d, .int (Int32.ofNat B.slots.size)])) := c1.trans (by
    refine XS.iloadN X0.here hexec rfl (hb hbytes d0) rfl ?_
    refine XS.aloadN X0.here hexec rfl (hb hbytes d1) rfl rfl ?_
    exact Steps.refl _)
  have c3 : Steps p.tables e below (s₁.setTop (entryFrame m #[.ref d, .int (Int32.ofNat B.slots.size)] 2)) (s₁.setTop (mkF m 8 #[.val (.ref d), .val (.int (Int32.ofNat B.slots.size))] [.int (lo8 (ushr (Int32.ofNat B.slots.size - Int32.ofNat B.slots.size) 31))])) := c2.trans (by
    refine X0.alen hexec hB0 rfl rfl (hb hbytes d2) ?_
    refine XS.isub X0.here hexec rfl (hb hbytes d3) rfl ?_
    refine bipushV X0.here hexec rfl 31 (hb hbytes d4) (by decide) ?_
    refine iushr X0.here hexec rfl (hb hbytes d6) rfl ?_
    refine i2b X0.here hexec rfl (hb hbytes d7) rfl ?_
    exact Steps.refl _)
  have e0 : lo8 (ushr (Int32.ofNat B.slots.size - Int32.ofNat B.slots.size) 31) = 0 := by rw [Int32.sub_self]; decide
  rw [e0] at c3
  exact ⟨s₁, some (.int 0), _, _, _, X0, rfl, rfl, rfl, (fun h => by cases h), ⟨rfl, hh0⟩, fun fs hl => c3.trans (X0.ireturnOut hexec hret rfl (Or.inr (Or.inr (Or.inl rfl))) (hb hbytes d8) hl)⟩
end CodL
/-- the String at a is Latin-1 over a new byte[] (the heap's one new cell): the low bytes of the len chars of A from o on; every cell but a is kept -/
def Got (a : Addr) (D : Cell) (fV fC : Field) (A : Cell) (o len : Nat) (r : Option Value) (s u : State) : Prop := r = none ∧ ∃ D' V : Cell, Blank "java/lang/String" a D' u ∧ Same D D' [fV.slot, fC.slot] ∧ D'.slots[fV.slot]? = some (.ref s.heap.size) ∧ D'.slots[fC.slot]? = some (.int 0) ∧ Arr .byte s.heap.size V u ∧ V.vm = .none ∧ u.vm.findClass "[B" = some V.cls ∧ V.slots.size = len ∧ (∀ j, j < len → V.slots[j]? = some (.int (lo8 (cv A (o + j))))) ∧ (∀ (y : Addr) (c : Cell), y ≠ a → s.heap[y]? = some c → u.heap[y]? = some c) ∧ u.heap.size = s.heap.size + 1
theorem Got.mv {a : Addr} {D A : Cell} {fV fC : Field} {o len : Nat} : ∀ r (U U' V V' : State), U'.heap = U.heap → V.vm.Alike V'.vm → V'.heap = V.heap → Got a D fV fC A o len r U V → Got a D fV fC A o len r U' V' :=
  fun r U U' V V' h1 hal h2 ⟨e0, D', X, a1, a2, a3, a4, a5, a6, a7, a8, a9, a10, a11⟩ => ⟨e0, D', X, a1.mv hal h2, a2, by rw [h1]; exact a3, a4, by rw [h1]; exact a5.mv hal h2, a6, by rw [hal.findClass]; exact a7, a8, a9, by rw [h1, h2]; exact a10, by rw [h1, h2]; exact a11⟩
namespace New4
def yN : MethodName := ⟨"java/lang/String", "<init>", "([CIILjava/lang/Void;)V"⟩
abbrev yB : ByteArray := jdk_42_method_149_code
theorem d0 : decode yB 0 = .ok (.aload_n 0, 1) := by decide +kernel
theorem d1 : decode yB 1 = .ok (.invokespecial 1, 3) := by decide +kernel
theorem d4 : decode yB 4 = .ok (.iload_n 3, 1) := by decide +kernel
theorem d5 : decode yB 5 = .ok (.ifCond (.ne) 22, 3) := by decide +kernel
theorem d27 : decode yB 27 = .ok (.getstatic 38, 3) := by decide +kernel
theorem d30 : decode yB 30 = .ok (.ifCond (.eq) 28, 3) := by decide +kernel
theorem d33 : decode yB 33 = .ok (.aload_n 1, 1) := by decide +kernel
theorem d34 : decode yB 34 = .ok (.iload_n 2, 1) := by decide +kernel
theorem d35 : decode yB 35 = .ok (.iload_n 3, 1) := by decide +kernel
theorem d36 : decode yB 36 = .ok (.invokestatic 177, 3) := by decide +kernel
theorem d39 : decode yB 39 = .ok (.astore 5, 2) := by decide +kernel
theorem d41 : decode yB 41 = .ok (.aload_n 0, 1) := by decide +kernel
theorem d42 : decode yB 42 = .ok (.aload 5, 2) := by decide +kernel
theorem d44 : decode yB 44 = .ok (.iload_n 3, 1) := by decide +kernel
theorem d45 : decode yB 45 = .ok (.invokestatic 47, 3) := by decide +kernel
theorem d48 : decode yB 48 = .ok (.putfield 15, 3) := by decide +kernel
theorem d51 : decode yB 51 = .ok (.aload_n 0, 1) := by decide +kernel
theorem d52 : decode yB 52 = .ok (.aload 5, 2) := by decide +kernel
theorem d54 : decode yB 54 = .ok (.putfield 9, 3) := by decide +kernel
theorem d57 : decode yB 57 = .ok (.return_, 1) := by decide +kernel
def site : List Cond := [.fieldLink "java/lang/String" 38 "java/lang/String" "COMPACT_STRINGS" "Z", Cmp3.tab, CodL.tab, .laysFinal "java/lang/String" "java/lang/String" "value" "[B", .fieldLink "java/lang/String" 9 "java/lang/String" "value" "[B", .laysFinal "java/lang/String" "java/lang/String" "coder" "B", .fieldLink "java/lang/String" 15 "java/lang/String" "coder" "B"] ++ objW "java/lang/String" 1 ++ staticW "java/lang/String" 177 Cmp3.yN ++ staticW "java/lang/String" 47 CodL.yN
def tab : Cond := tabOf yN yB 6 none site
def P (a : Addr) (D : Cell) (fV fC : Field) (b : Addr) (A : Cell) (z : Int32) (o len : Nat) (args : Array Value) (s : State) : Prop := args = #[.ref a, .ref b, .int (Int32.ofNat o), .int (Int32.ofNat len), .null] ∧ Blank "java/lang/String" a D s ∧ Found "java/lang/String" "value" "[B" fV s ∧ Found "java/lang/String" "coder" "B" fC s ∧ Ch b A s ∧ StaticIs s "java/lang/String" "COMPACT_STRINGS" "Z" (.int z) ∧ ¬ z = 0 ∧ 0 < len ∧ o + len ≤ A.slots.size ∧ len ≤ 536870912 ∧ ∀ i, i < len → ¬ 255 < cv A (o + i)
def E (a : Addr) (D : Cell) (fV fC : Field) (A : Cell) (o len : Nat) (r : Option Value) (s u : State) : Prop := Got a D fV fC A o len r s u
/-- len > 0, no char of the range above 255: a Latin-1 String of their low bytes -/
theorem law (l : Launch) (a : Addr) (D : Cell) (fV fC : Field) (b : Addr) (A : Cell) (z : Int32) (o len : Nat) : Law l yN 5 4 2 35 yB 6 none site (P a D fV fC b A z o len) (E a D fV fC A o len) [⟨a, fC.slot⟩, ⟨a, fV.slot⟩] 1 len := by
  refine Law.of_walk (plainFor_of_name (by decide +kernel)) (by decide +kernel) (by decide +kernel) (by decide) (fun _ _ h => by rw [h.1]; rfl) (fun _ U U' hal hh h => ⟨h.1, h.2.1.mv hal hh, h.2.2.1.al hal, h.2.2.2.1.al hal, h.2.2.2.2.1.mv hal hh, h.2.2.2.2.2.1.there hal hh, h.2.2.2.2.2.2⟩) (fun r U U' V V' h1 hal h2 h => Got.mv r U U' V V' h1 hal h2 h) ?_
  intro p e s m args below meth c s₁ X0 hexec hbytes hml hret hlk hnm hown hh0 W hP
  obtain ⟨rfl, hB, f1, f2, hA, s1, hz, l0, l1, l2, hp⟩ := hP
  have a31 := hA.1.2.2.2
  have c1 : Steps p.tables e below (s₁.setTop (entryFrame m #[.ref a, .ref b, .int (Int32.ofNat o), .int (Int32.ofNat len), .null] 6)) (s₁.setTop (mkF m 0 #[.val (.ref a), .val (.ref b), .val (.int (Int32.ofNat o)), .val (.int (Int32.ofNat len)), .val .null, .unset] [])) := entry rfl
  have c2 : Steps p.tables e below (s₁.setTop (entryFrame m #[.ref a, .ref b, .int (Int32.ofNat o), .int (Int32.ofNat len), .null] 6)) (s₁.setTop (mkF m 1 #[.val (.ref a), .val (.ref b), .val (.int (Int32.ofNat o)), .val (.int (Int32.ofNat len)), .val .null, .unset] [.ref a])) := c1.trans (by
    refine XS.aloadN X0.here hexec rfl (hb hbytes d0) rfl rfl ?_
    exact Steps.refl _)
  obtain ⟨T3, X3, q3, st3⟩ := X0.oinit hexec hown (wks W (objW "java/lang/String" 1)) (g := (mkF m 1 #[.val (.ref a), .val (.ref b), .val (.int (Int32.ofNat o)), .val (.int (Int32.ofNat len)), .val .null, .unset] [.ref a])) rfl (by rw [hml]; rfl) (rest := []) rfl (hb hbytes d1) (W := 0) (by show 2 * 0 + 0 ≤ _; decide) (Nat.le_of_ble_eq_true rfl) (Nat.le_of_ble_eq_true rfl)
  have hh3 := q3.trans hh0
  have c4 : Steps p.tables e below (s₁.setTop (entryFrame m #[.ref a, .ref b, .int (Int32.ofNat o), .int (Int32.ofNat len), .null] 6)) (T3.setTop (mkF m 27 #[.val (.ref a), .val (.ref b), .val (.int (Int32.ofNat o)), .val (.int (Int32.ofNat len)), .val .null, .unset] [])) := (c2.trans (st3 _ (Steps.refl _))).trans (by
    refine XS.iloadN X3.here hexec rfl (hb hbytes d4) rfl ?_
    refine XS.ifYes X3.here hexec rfl (pc0 := 5) rfl (hb hbytes d5) rfl (i0_ne_t (nz32 (by omega) l0)) (by decide) rfl ?_
    exact Steps.refl _)
  obtain ⟨T5, X5, q5, st5⟩ := X3.sget hexec hown (wk W (.fieldLink "java/lang/String" 38 "java/lang/String" "COMPACT_STRINGS" "Z")) s1 (fun _ _ h => by rw [hh3]; exact h) (g := (mkF m 27 #[.val (.ref a), .val (.ref b), .val (.int (Int32.ofNat o)), .val (.int (Int32.ofNat len)), .val .null, .unset] [])) rfl (hb hbytes d27)
  have hh5 := q5.trans hh3
  have c6 : Steps p.tables e below (s₁.setTop (entryFrame m #[.ref a, .ref b, .int (Int32.ofNat o), .int (Int32.ofNat len), .null] 6)) (T5.setTop (mkF m 30 #[.val (.ref a), .val (.ref b), .val (.int (Int32.ofNat o)), .val (.int (Int32.ofNat len)), .val .null, .unset] [.int z])) := c4.trans (st5 _ (Steps.refl _))
  have c7 : Steps p.tables e below (s₁.setTop (entryFrame m #[.ref a, .ref b, .int (Int32.ofNat o), .int (Int32.ofNat len), .null] 6)) (T5.setTop (mkF m 36 #[.val (.ref a), .val (.ref b), .val (.int (Int32.ofNat o)), .val (.int (Int32.ofNat len)), .val .null, .unset] [.int (Int32.ofNat len), .int (Int32.ofNat o), .ref b])) := c6.trans (by
    refine XS.ifNo X5.here hexec rfl (hb hbytes d30) rfl (i0_eq_f hz) ?_
    refine XS.aloadN X5.here hexec rfl (hb hbytes d33) rfl rfl ?_
    refine XS.iloadN X5.here hexec rfl (hb hbytes d34) rfl ?_
    refine XS.iloadN X5.here hexec rfl (hb hbytes d35) rfl ?_
    exact Steps.refl _)
  obtain ⟨v8, T8, X8, E8, g8⟩ := X5.callS hexec (Cmp3.law l b A o len) hown (wks W (staticW "java/lang/String" 177 Cmp3.yN)) (wk W Cmp3.tab) (W := 0) (Nat.le_of_ble_eq_true rfl) (Nat.le_of_ble_eq_true rfl) (Nat.le_refl _) (by show 0 + len ≤ len; omega) (g := (mkF m 36 #[.val (.ref a), .val (.ref b), .val (.int (Int32.ofNat o)), .val (.int (Int32.ofNat len)), .val .null, .unset] [.int (Int32.ofNat len), .int (Int32.ofNat o), .ref b])) rfl (by rw [hml]; rfl) c7 (argsL := [.ref b, .int (Int32.ofNat o), .int (Int32.ofNat len)]) (rest := []) rfl rfl (by show 2 * 0 + 0 ≤ _; decide) (hb hbytes d36) (⟨rfl, hA.mv X5.warmed.alike hh5, l1, l2, hp⟩)
  obtain ⟨e8, z8⟩ := E8
  obtain ⟨rfl, N, n1, n2, n3, n4, n5, n6⟩ := NewArr.mv _ T5 s _ _ hh5.symm (Vm.Alike.refl _) rfl e8
  rw [hh5] at z8
  have hB1 := hB.keep X8.warmed.alike (n6 _ _ hB.1)
  have hne : s.heap.size ≠ a := (Nat.ne_of_lt (Array.getElem?_eq_some_iff.mp hB.1).1).symm
  have c9 : Steps p.tables e below (s₁.setTop (entryFrame m #[.ref a, .ref b, .int (Int32.ofNat o), .int (Int32.ofNat len), .null] 6)) (T8.setTop (mkF m 39 #[.val (.ref a), .val (.ref b), .val (.int (Int32.ofNat o)), .val (.int (Int32.ofNat len)), .val .null, .unset] [.ref s.heap.size])) := g8
  have c10 : Steps p.tables e below (s₁.setTop (entryFrame m #[.ref a, .ref b, .int (Int32.ofNat o), .int (Int32.ofNat len), .null] 6)) (T8.setTop (mkF m 45 #[.val (.ref a), .val (.ref b), .val (.int (Int32.ofNat o)), .val (.int (Int32.ofNat len)), .val .null, .val (.ref s.heap.size)] [.int (Int32.ofNat N.slots.size), .ref s.heap.size, .ref a])) := by
    have hc : Steps p.tables e below (s₁.setTop (entryFrame m #[.ref a, .ref b, .int (Int32.ofNat o), .int (Int32.ofNat len), .null] 6)) (T8.setTop (mkF m 45 #[.val (.ref a), .val (.ref b), .val (.int (Int32.ofNat o)), .val (.int (Int32.ofNat len)), .val .null, .val (.ref s.heap.size)] [.int (Int32.ofNat len), .ref s.heap.size, .ref a])) := c9.trans (by
      refine XS.astore X8.here hexec rfl (hb hbytes d39) rfl rfl rfl ?_
      refine XS.aloadN X8.here hexec rfl (hb hbytes d41) rfl rfl ?_
      refine XS.aload X8.here hexec rfl (hb hbytes d42) rfl rfl ?_
      refine XS.iloadN X8.here hexec rfl (hb hbytes d44) rfl ?_
      exact Steps.refl _)
    rw [n4]; exact hc
  obtain ⟨v11, T11, X11, E11, g11⟩ := X8.callS hexec (CodL.law l s.heap.size N) hown (wks W (staticW "java/lang/String" 47 CodL.yN)) (wk W CodL.tab) (W := 1) (Nat.le_of_ble_eq_true rfl) (Nat.le_of_ble_eq_true rfl) (Nat.le_refl _) (by show 0 + len + 0 ≤ len; omega) (g := (mkF m 45 #[.val (.ref a), .val (.ref b), .val (.int (Int32.ofNat o)), .val (.int (Int32.ofNat len)), .val .null, .val (.ref s.heap.size)] [.int (Int32.ofNat N.slots.size), .ref s.heap.size, .ref a])) rfl (by rw [hml]; rfl) c10 (argsL := [.ref s.heap.size, .int (Int32.ofNat N.slots.size)]) (rest := [.ref a]) rfl rfl (by show 2 * 0 + (1 + 0) ≤ _; decide) (hb hbytes d45) (⟨rfl, n1⟩)
  obtain ⟨rfl, q11⟩ := E11
  have hB11 := hB1.mv (X8.warmed.alike.symm.trans X11.warmed.alike) q11
  have c12 : Steps p.tables e below (s₁.setTop (entryFrame m #[.ref a, .ref b, .int (Int32.ofNat o), .int (Int32.ofNat len), .null] 6)) (T11.setTop (mkF m 48 #[.val (.ref a), .val (.ref b), .val (.int (Int32.ofNat o)), .val (.int (Int32.ofNat len)), .val .null, .val (.ref s.heap.size)] [.int 0, .ref a])) := g11
  obtain ⟨T13, X13, p13, bl13, sl13, st13⟩ := X11.finit hexec hown (wk W (.fieldLink "java/lang/String" 15 "java/lang/String" "coder" "B")) (Or.inr ⟨_, (wk W (.laysFinal "java/lang/String" "java/lang/String" "coder" "B"))⟩) (Or.inl ⟨rfl, hnm⟩) f2 (Or.inl rfl) hB11 (t := .byte) (by decide +kernel) rfl (g := (mkF m 48 #[.val (.ref a), .val (.ref b), .val (.int (Int32.ofNat o)), .val (.int (Int32.ofNat len)), .val .null, .val (.ref s.heap.size)] [.int 0, .ref a])) rfl (rest := []) rfl (hb hbytes d48)
  have c14 : Steps p.tables e below (s₁.setTop (entryFrame m #[.ref a, .ref b, .int (Int32.ofNat o), .int (Int32.ofNat len), .null] 6)) (T13.setTop (mkF m 54 #[.val (.ref a), .val (.ref b), .val (.int (Int32.ofNat o)), .val (.int (Int32.ofNat len)), .val .null, .val (.ref s.heap.size)] [.ref s.heap.size, .ref a])) := (c12.trans (st13 _ (Steps.refl _))).trans (by
    refine XS.aloadN X13.here hexec rfl (hb hbytes d51) rfl rfl ?_
    refine XS.aload X13.here hexec rfl (hb hbytes d52) rfl rfl ?_
    exact Steps.refl _)
  obtain ⟨T15, X15, p15, bl15, sl15, st15⟩ := X13.finit hexec hown (wk W (.fieldLink "java/lang/String" 9 "java/lang/String" "value" "[B")) (Or.inr ⟨_, (wk W (.laysFinal "java/lang/String" "java/lang/String" "value" "[B"))⟩) (Or.inl ⟨rfl, hnm⟩) f1 (Or.inl rfl) bl13 (t := (.array .byte)) (by decide +kernel) rfl (g := (mkF m 54 #[.val (.ref a), .val (.ref b), .val (.int (Int32.ofNat o)), .val (.int (Int32.ofNat len)), .val .null, .val (.ref s.heap.size)] [.ref s.heap.size, .ref a])) rfl (rest := []) rfl (hb hbytes d54)
  have c16 : Steps p.tables e below (s₁.setTop (entryFrame m #[.ref a, .ref b, .int (Int32.ofNat o), .int (Int32.ofNat len), .null] 6)) (T15.setTop (mkF m 57 #[.val (.ref a), .val (.ref b), .val (.int (Int32.ofNat o)), .val (.int (Int32.ofNat len)), .val .null, .val (.ref s.heap.size)] [])) := c14.trans (st15 _ (Steps.refl _))
  have ap := apart (Or.inr ⟨_, (wk W (.laysFinal "java/lang/String" "java/lang/String" "value" "[B"))⟩) (Or.inr ⟨_, (wk W (.laysFinal "java/lang/String" "java/lang/String" "coder" "B"))⟩) f1 f2 (t₁ := .array .byte) (t₂ := .byte) (by decide +kernel) (by decide +kernel) (by decide)
  have al := X8.warmed.alike.symm.trans X15.warmed.alike
  have n7 : T11.heap[s.heap.size]? = some N := by rw [q11]; exact n1.1
  exact ⟨T15, none, _, _, _, X15, by simp, rfl, by omega, (fun _ => rfl), ⟨rfl, _, N, bl15, ((Same.refl D _).set _ (by simp)).set _ (by simp), sl15, (Cell.slots_setSlot_ne _ ap).trans sl13, n1.keep al (p15.other hne (p13.other hne n7)), n2, by rw [al.findClass]; exact n3, n4, n5, fun y c h1 h2 => p15.other h1 (p13.other h1 (by rw [q11]; exact n6 y c h2)), by rw [p15.2.2, p13.2.2, q11]; exact z8⟩, fun fs hl => c16.trans (X15.returnOut hexec hret (hb hbytes d57) hl)⟩
end New4
namespace New1
def yN : MethodName := ⟨"java/lang/String", "<init>", "([C)V"⟩
abbrev yB : ByteArray := jdk_42_method_3_code
theorem d0 : decode yB 0 = .ok (.aload_n 0, 1) := by decide +kernel
theorem d1 : decode yB 1 = .ok (.aload_n 1, 1) := by decide +kernel
theorem d2 : decode yB 2 = .ok (.iconst 0, 1) := by decide +kernel
theorem d3 : decode yB 3 = .ok (.aload_n 1, 1) := by decide +kernel
theorem d4 : decode yB 4 = .ok (.arraylength, 1) := by decide +kernel
theorem d5 : decode yB 5 = .ok (.aconst_null, 1) := by decide +kernel
theorem d6 : decode yB 6 = .ok (.invokespecial 27, 3) := by decide +kernel
theorem d9 : decode yB 9 = .ok (.return_, 1) := by decide +kernel
def site : List Cond := [New4.tab] ++ initW "java/lang/String" 27 New4.yN
def tab : Cond := tabOf yN yB 2 none site
def P (a : Addr) (D : Cell) (fV fC : Field) (b : Addr) (A : Cell) (z : Int32) (args : Array Value) (s : State) : Prop := args = #[.ref a, .ref b] ∧ Blank "java/lang/String" a D s ∧ Found "java/lang/String" "value" "[B" fV s ∧ Found "java/lang/String" "coder" "B" fC s ∧ Ch b A s ∧ StaticIs s "java/lang/String" "COMPACT_STRINGS" "Z" (.int z) ∧ ¬ z = 0 ∧ 0 < A.slots.size ∧ A.slots.size ≤ 536870912 ∧ ∀ i, i < A.slots.size → ¬ 255 < cv A i
def E (a : Addr) (D : Cell) (fV fC : Field) (A : Cell) (r : Option Value) (s u : State) : Prop := Got a D fV fC A 0 A.slots.size r s u
/-- new String(chars), not empty, no char above 255: a Latin-1 String of their low bytes -/
theorem law (l : Launch) (a : Addr) (D : Cell) (fV fC : Field) (b : Addr) (A : Cell) (z : Int32) : Law l yN 2 1 3 52 yB 2 none site (P a D fV fC b A z) (E a D fV fC A) [⟨a, fC.slot⟩, ⟨a, fV.slot⟩] 1 A.slots.size := by
  refine Law.of_walk (plainFor_of_name (by decide +kernel)) (by decide +kernel) (by decide +kernel) (by decide) (fun _ _ h => by rw [h.1]; rfl) (fun _ U U' hal hh h => ⟨h.1, h.2.1.mv hal hh, h.2.2.1.al hal, h.2.2.2.1.al hal, h.2.2.2.2.1.mv hal hh, h.2.2.2.2.2.1.there hal hh, h.2.2.2.2.2.2⟩) (fun r U U' V V' h1 hal h2 h => Got.mv r U U' V V' h1 hal h2 h) ?_
  intro p e s m args below meth c s₁ X0 hexec hbytes hml hret hlk hnm hown hh0 W hP
  obtain ⟨rfl, hB, f1, f2, hA, s1, hz, l0, l2, hp⟩ := hP
  have c1 : Steps p.tables e below (s₁.setTop (entryFrame m #[.ref a, .ref b] 2)) (s₁.setTop (mkF m 0 #[.val (.ref a), .val (.ref b)] [])) := entry rfl
  have c2 : Steps p.tables e below (s₁.setTop (entryFrame m #[.ref a, .ref b] 2)) (s₁.setTop (mkF m 6 #[.val (.ref a), .val (.ref b)] [.null, .int (Int32.ofNat A.slots.size), .int 0, .ref b, .ref a])) := c1.trans (by
    refine XS.aloadN X0.here hexec rfl (hb hbytes d0) rfl rfl ?_
    refine XS.aloadN X0.here hexec rfl (hb hbytes d1) rfl rfl ?_
    refine iconstV X0.here hexec rfl 0 (hb hbytes d2) (by decide) ?_
    refine XS.aloadN X0.here hexec rfl (hb hbytes d3) rfl rfl ?_
    refine X0.alen hexec (hA.1.mv X0.warmed.alike hh0) rfl rfl (hb hbytes d4) ?_
    refine XS.aconstNull X0.here hexec rfl (hb hbytes d5) ?_
    exact Steps.refl _)
  obtain ⟨v3, T3, X3, E3, g3⟩ := X0.callN hexec (New4.law l a D fV fC b A z 0 A.slots.size) rfl hown (wks W (initW "java/lang/String" 27 New4.yN)) (W New4.tab (by simp only [site, List.mem_cons, List.mem_append, true_or, or_true])) (W := 0) (Nat.le_of_ble_eq_true rfl) (Nat.le_of_ble_eq_true rfl) (Nat.le_refl _) (by show 0 + A.slots.size ≤ A.slots.size; omega) (g := (mkF m 6 #[.val (.ref a), .val (.ref b)] [.null, .int (Int32.ofNat A.slots.size), .int (Int32.ofNat 0), .ref b, .ref a])) rfl (by rw [hml]; rfl) c2 (argsL := [.ref b, .int (Int32.ofNat 0), .int (Int32.ofNat A.slots.size), .null]) (rest := []) rfl rfl (by show 2 * 0 + 0 ≤ _; decide) (hb hbytes d6) (⟨rfl, hB.mv X0.warmed.alike hh0, f1.al X0.warmed.alike, f2.al X0.warmed.alike, hA.mv X0.warmed.alike hh0, s1.there X0.warmed.alike hh0, hz, l0, by omega, l2, fun i hi => by rw [Nat.zero_add]; exact hp i hi⟩)
  have e0 := Got.mv _ s₁ s _ _ hh0.symm (Vm.Alike.refl _) rfl E3
  obtain rfl := e0.1
  have c4 : Steps p.tables e below (s₁.setTop (entryFrame m #[.ref a, .ref b] 2)) (T3.setTop (mkF m 9 #[.val (.ref a), .val (.ref b)] [])) := g3
  exact ⟨T3, none, _, _, _, X3, by simp, rfl, by omega, (fun _ => rfl), e0, fun fs hl => c4.trans (X3.returnOut hexec hret (hb hbytes d9) hl)⟩
theorem pays {l : Launch} {R : Room} {p : Program} {e : Env} {below : List Frame} {s : State} {sargs : Array Value} {len W : Nat} (a : Addr) (D : Cell) (fV fC : Field) (b : Addr) (A : Cell) (z : Int32) (htab : tab.before sargs s = true) (hfr : 4 ≤ R.frames) (hlo : W + 65 ≤ R.locals) :
    Back l R p e below s sargs yN len W (fun A₁ a₁ => A₁.cells + 1 ≤ R.cells ∧ A₁.slots + A.slots.size ≤ R.slots ∧ P a D fV fC b A z a₁ A₁.U) (fun A₁ _ v₁ B₁ => E a D fV fC A v₁ A₁.U B₁.U ∧ B₁.locs = A₁.locs ++ [⟨a, fC.slot⟩, ⟨a, fV.slot⟩] ∧ B₁.cells = A₁.cells + 1 ∧ B₁.slots = A₁.slots + A.slots.size) :=
  (law l a D fV fC b A z).pays htab hfr (by omega)
end New1
/-- the byte, read back as charAt reads it, is the char -/
theorem lo8_mask {x : Int32} (h0 : ¬ x < 0) (h1 : ¬ 255 < x) : lo8 x &&& 255 = x := by
  have t : ∀ k : Fin 256, lo8 (Int32.ofNat k.val) &&& 255 = Int32.ofNat k.val := by decide +kernel
  rw [Int32.lt_iff_toInt_lt] at h0 h1
  have e0 : (0 : Int32).toInt = 0 := rfl
  have e1 : (255 : Int32).toInt = 255 := rfl
  obtain ⟨k, hk⟩ : ∃ k : Nat, x.toInt = k := ⟨x.toInt.toNat, by omega⟩
  have hx : x = Int32.ofNat k := Int32.toInt_inj.mp (by rw [hk, Int32.toInt_ofNat_small (by omega)])
  rw [hx]
  exact t ⟨k, by omega⟩
end StrChars
namespace StrChars.Road
open Jvm Sem ClassFile Op Lib Jvm.Stand Jvm.Free Jvm.Free.XT
open Jvm.Lib.Cold (StaticIs)
abbrev ST : String := "java/lang/String"
/-- every table word that New1's law asks, flat -/
abbrev words : List Jvm.Cond := [.code New1.yN New1.yB 2 none, .initialized ST, .methodLink ST 27 New4.yN, .instanceMethod New4.yN,
  .code New4.yN New4.yB 6 none, .fieldLink ST 38 ST "COMPACT_STRINGS" "Z", .laysFinal ST ST "value" "[B", .fieldLink ST 9 ST "value" "[B", .laysFinal ST ST "coder" "B", .fieldLink ST 15 ST "coder" "B",
  .methodLink ST 1 Lib.objectInit, .instanceMethod Lib.objectInit, .code Lib.objectInit ⟨#[0xb1]⟩ 1 none, .methodLink ST 177 Cmp3.yN, .static Cmp3.yN, .methodLink ST 47 CodL.yN, .static CodL.yN,
  .code Cmp3.yN Cmp3.yB 6 (some (.array .byte)), .initialized U16, .arrayClass .byte, .methodLink U16 115 Cmp5.yN, .static Cmp5.yN, .code Cmp5.yN Cmp5.yB 7 (some .int), .code CodL.yN CodL.yB 2 (some .byte)]
theorem tab_of {a : Array Value} {s : State} (h : ∀ w ∈ words, w.before a s = true) : New1.tab.before a s = true := by
  have h5 : Cmp5.tab.before a s = true := unparts (wk h (.code Cmp5.yN Cmp5.yB 7 (some .int))) (wks h (.initialized Cmp5.yN.cls :: Cmp5.site))
  have hc : CodL.tab.before a s = true := unparts (wk h (.code CodL.yN CodL.yB 2 (some .byte))) (wks h (.initialized CodL.yN.cls :: CodL.site))
  have q5 : ∀ w ∈ Cmp5.tab :: words, w.before a s = true := fun w hw => (List.mem_cons.mp hw).elim (fun e => e ▸ h5) (h w)
  have h3 : Cmp3.tab.before a s = true := unparts (wk q5 (.code Cmp3.yN Cmp3.yB 6 (some (.array .byte)))) (wks q5 (.initialized Cmp3.yN.cls :: Cmp3.site))
  have q3 : ∀ w ∈ Cmp3.tab :: CodL.tab :: words, w.before a s = true := fun w hw => (List.mem_cons.mp hw).elim (fun e => e ▸ h3) fun hw => (List.mem_cons.mp hw).elim (fun e => e ▸ hc) (h w)
  have h4 : New4.tab.before a s = true := unparts (wk q3 (.code New4.yN New4.yB 6 none)) (wks q3 (.initialized New4.yN.cls :: New4.site))
  have q4 : ∀ w ∈ New4.tab :: words, w.before a s = true := fun w hw => (List.mem_cons.mp hw).elim (fun e => e ▸ h4) (h w)
  exact unparts (wk q4 (.code New1.yN New1.yB 2 none)) (wks q4 (.initialized New1.yN.cls :: New1.site))
/-- the words ride from the start Z to the walk's own state -/
theorem moved {Z s : State} {a0 args : Array Value} (hZ : Z.Warmed39 s.vm) (hw : ∀ d ∈ words, d.before a0 Z = true) : ∀ d ∈ words, d.before args s = true := fun d hd => by
  have q := hw d hd
  have t : ∀ d ∈ words, d = .arrayClass .byte ∨ (d.onTables && d.keepsFace) = true := by decide +kernel
  rcases t d hd with rfl | t
  · exact RoadKit.mvA hZ q
  · exact RoadKit.mv hZ q t
/-- WHAT COMES BACK, over the tables of the start Z: h the heap at the call, h' behind it -/
def Q (Z : State) (x : Addr) (A : Cell) (h : Heap) (v : Option Value) (h' : Heap) (L : List Loc) : Prop := v = none ∧ (∀ y ∈ L, y.base = x) ∧ RoadKit.Keep h h' [x] ∧ h'.size = h.size + 1 ∧ RoadKit.Exa Z h' x ST ∧ RoadKit.Fld Z h' x ST "value" "[B" (.ref h.size) ∧ RoadKit.Fld Z h' x ST "coder" "B" (.int 0) ∧
  (∃ V : Cell, RoadKit.Arr Z h' h.size V .byte ∧ V.vm = .none ∧ Z.vm.findClass "[B" = some V.cls ∧ V.slots.size = A.slots.size ∧ ∀ j, j < A.slots.size → V.slots[j]? = some (.int (lo8 (cv A j)))) ∧
  ∀ (O n d : String) (w : Value), RoadKit.Fld Z h x O n d w → RoadKit.slotOf Z O n d ≠ RoadKit.slotOf Z ST "value" "[B" → RoadKit.slotOf Z O n d ≠ RoadKit.slotOf Z ST "coder" "B" → RoadKit.Fld Z h' x O n d w
/-- **new String(chars) AT A CALL, IN THE ROAD'S FORM**: for specialBack behind newO: x the fresh String, b the char[] with the cell A -/
theorem back {p : Program} {l : Launch} {e : Env} {R : Room} {s : State} {args : Array Value} {below : List Frame} {len W : Nat} {Z : State} {a0 : Array Value} {h : Heap} (hZ : Z.Warmed39 s.vm) (hw : ∀ d ∈ words, d.before a0 Z = true) {kI : Nat} (wi : (Jvm.Cond.instantiable ST kI).before a0 Z = true)
    {x b : Addr} {A : Cell} {z : Int32} {v0 c0 : Value} (E : RoadKit.Exa Z h x ST) (V : RoadKit.Fld Z h x ST "value" "[B" v0) (C : RoadKit.Fld Z h x ST "coder" "B" c0) (K : RoadKit.Arr Z h b A .char) (hty : Typed .char A) (S : RoadKit.Sta Z h ST "COMPACT_STRINGS" "Z" (.int z)) (hz : ¬ z = 0)
    (l0 : 0 < A.slots.size) (l2 : A.slots.size ≤ 536870912) (hp : ∀ i, i < A.slots.size → ¬ 255 < cv A i) (hfr : 4 ≤ R.frames) (hlo : W + 65 ≤ R.locals) :
    Back l R p e below s args New1.yN len W (fun P a => a = #[.ref x, .ref b] ∧ P.U.heap = h ∧ P.cells + 1 ≤ R.cells ∧ P.slots + A.slots.size ≤ R.slots)
      (fun P _ v B => ∃ L, Q Z x A h v B.U.heap L ∧ B.locs = P.locs ++ L ∧ B.cells = P.cells + 1 ∧ B.slots = P.slots + A.slots.size) := by
  intro m meth c P g ig mk a X hg hsize hdg hW hn hp'
  obtain ⟨rfl, rfl, r1, r2⟩ := hp'
  have al : Z.vm.Alike P.U.vm := hZ.alike.trans X.warmed.alike
  obtain ⟨D, cfV, kV, iV, fV, hD, gV, stV, knV, obV, asV, slV⟩ := id V
  obtain ⟨D', cfC, kC, iC, fC, hD', gC, stC, -, -, asC, slC⟩ := id C
  cases hD.symm.trans hD'
  obtain ⟨D2, kD, e1, e2, e3, e4, e5⟩ := id E
  cases hD.symm.trans e1
  obtain ⟨c2, k2, i1, i2, i3, -⟩ := Cond.instantiable_spec wi
  cases e2.symm.trans i1
  cases e3.symm.trans i2
  obtain ⟨kU, u1, u2⟩ := al.2.2 _ _ e3
  have hB : Blank ST x D P.U := ⟨hD, ⟨knV, fun q hq => by rw [hq] at obV; cases obV⟩, by rw [al.findClass]; exact e2, kU, u1, by rw [u2]; exact i3, by rw [u2]; exact e5 i3⟩
  have F1 : Found ST "value" "[B" fV P.U := ⟨SBG.found_only al ⟨cfV, kV, iV, gV⟩, stV⟩
  have F2 : Found ST "coder" "B" fC P.U := ⟨SBG.found_only al ⟨cfC, kC, iC, gC⟩, stC⟩
  have hA : Ch b A P.U := ⟨⟨K.1, State.isArrayOf_alike al K.2.1, K.2.2, by omega⟩, hty⟩
  have hS : StaticIs P.U ST "COMPACT_STRINGS" "Z" (.int z) := by
    obtain ⟨cfS, iS, kS, fS, st, cS, t1, t2, t3, t4, t5, t6, t7⟩ := S
    exact StaticIs.there (s := { Z with heap := P.U.heap }) ⟨cfS, iS, kS, fS, st, cS, t1, t2, t3, t4, t5, (fun q => by rw [q] at t6; cases t6), t7⟩ al rfl
  obtain ⟨v, B, X', ⟨⟨hv, E', V', q1, q2, q3, q4, q5, q6, q7, q8, q9, q10, q11⟩, hl, hc, hs⟩, st⟩ := New1.pays x D fV fC b A z (tab_of (moved hZ hw)) hfr hlo m meth c P g ig mk _ X hg hsize hdg hW hn ⟨r1, r2, rfl, hB, F1, F2, hA, hS, hz, l0, l2, hp⟩
  have al' : Z.vm.Alike B.U.vm := hZ.alike.trans X'.warmed.alike
  have hsz : E'.slots.size = D.slots.size := by
    obtain ⟨-, -, -, kB, w1, w2, w3⟩ := q1
    obtain ⟨kB', y1, y2⟩ := al'.2.2 _ _ e3
    rw [q2.2.1] at w1
    cases w1.symm.trans y1
    rw [w3, e5 i3, y2]
  refine ⟨v, B, X', ⟨_, ⟨hv, ?_, ⟨by omega, fun y cy hy hn' => q10 y cy (by simpa using hn') hy, fun y cy hy => ?_⟩, q11, ⟨E', _, q1.1, by rw [q2.2.1]; exact e2, by rw [q2.2.1]; exact e3, by rw [q2.1]; exact obV, fun _ => by rw [hsz]; exact e5 i3⟩,
    ⟨E', cfV, kV, iV, fV, q1.1, gV, stV, by rw [q2.1]; exact knV, by rw [q2.1]; exact obV, by rw [q2.2.1]; exact asV, q3⟩, ⟨E', cfC, kC, iC, fC, q1.1, gC, stC, by rw [q2.1]; exact knV, by rw [q2.1]; exact obV, by rw [q2.2.1]; exact asC, q4⟩,
    ⟨V', ⟨q5.1, State.isArrayOf_alike al'.symm q5.2.1, q5.2.2.1⟩, q6, by rw [← al'.findClass]; exact q7, q8, fun j hj => by have := q9 j hj; rwa [Nat.zero_add] at this⟩, fun O n d w F n1 n2 => ?_⟩, hl, hc, hs⟩, st⟩
  · intro y hy
    simp only [List.mem_cons, List.not_mem_nil, or_false] at hy
    rcases hy with rfl | rfl <;> rfl
  · by_cases q : y = x
    · subst q
      cases hD.symm.trans hy
      exact ⟨E', q1.1, q2.2.1, q2.1, hsz⟩
    · exact ⟨cy, q10 y cy q hy, rfl, rfl, rfl⟩
  · obtain ⟨D3, cf, k, i, f, g1, g2, g3, g4, g5, g6, g7⟩ := F
    cases hD.symm.trans g1
    simp only [RoadKit.slotOf, g2, gV, gC, Option.map_some, Option.getD_some] at n1 n2
    exact ⟨E', cf, k, i, f, q1.1, g2, g3, by rw [q2.1]; exact g4, by rw [q2.1]; exact g5, by rw [q2.2.1]; exact g6, by rw [q2.2.2 f.slot (by simp [n1, n2])]; exact g7⟩
end StrChars.Road
namespace StrChars.Road
open Jvm Sem ClassFile Op Lib Jvm.Stand Jvm.Free Jvm.Free.XT
/-- WHAT COMES BACK, the byte[] as a list of values -/
def QA (Z : State) (x : Addr) (zn : Int32) (cs : List Int32) (h : Heap) (v : Option Value) (h' : Heap) (L : List Loc) : Prop := v = none ∧ (∀ y ∈ L, y.base = x) ∧ RoadKit.Keep h h' [x] ∧ h'.size = h.size + 1 ∧ RoadKit.Exa Z h' x ST ∧ RoadKit.Fld Z h' x ST "value" "[B" (.ref h.size) ∧ RoadKit.Fld Z h' x ST "coder" "B" (.int 0) ∧
  (∃ kb, Z.vm.findClass "[B" = some kb ∧ RoadKit.Arv Z h' h.size kb .byte zn (cs.map fun c => .int (lo8 c)) (.int 0)) ∧
  ∀ (O n d : String) (w : Value), RoadKit.Fld Z h x O n d w → RoadKit.slotOf Z O n d ≠ RoadKit.slotOf Z ST "value" "[B" → RoadKit.slotOf Z O n d ≠ RoadKit.slotOf Z ST "coder" "B" → RoadKit.Fld Z h' x O n d w
/-- **new String(chars) AT A CALL, THE ARRAYS AS LISTS**: the char[] at b holds cs, not empty, no char above 255 -/
theorem backArv {p : Program} {l : Launch} {e : Env} {R : Room} {s : State} {args : Array Value} {below : List Frame} {len W : Nat} {Z : State} {a0 : Array Value} {h : Heap} (hZ : Z.Warmed39 s.vm) (hw : ∀ d ∈ words, d.before a0 Z = true) {kI : Nat} (wi : (Jvm.Cond.instantiable ST kI).before a0 Z = true)
    {x b : Addr} {k : ClassId} {zn z : Int32} {cs : List Int32} {dv v0 c0 : Value} (E : RoadKit.Exa Z h x ST) (V : RoadKit.Fld Z h x ST "value" "[B" v0) (C : RoadKit.Fld Z h x ST "coder" "B" c0) (K : RoadKit.Arv Z h b k .char zn (cs.map Value.int) dv) (S : RoadKit.Sta Z h ST "COMPACT_STRINGS" "Z" (.int z)) (hz : ¬ z = 0)
    (hlen : zn.toNatClampNeg = cs.length) (h0 : 0 < cs.length) (hbig : cs.length ≤ 536870912) (hall : ∀ c ∈ cs, ¬ 255 < c) (hfr : 4 ≤ R.frames) (hlo : W + 65 ≤ R.locals) :
    Back l R p e below s args New1.yN len W (fun P a => a = #[.ref x, .ref b] ∧ P.U.heap = h ∧ P.cells + 1 ≤ R.cells ∧ P.slots + cs.length ≤ R.slots)
      (fun P _ v B => ∃ L, QA Z x zn cs h v B.U.heap L ∧ B.locs = P.locs ++ L ∧ B.cells = P.cells + 1 ∧ B.slots = P.slots + cs.length) := by
  obtain ⟨A, K1, K2, K3, K4, K5, K6⟩ := K
  have e : A.slots.size = cs.length := K3.trans hlen
  have hat : ∀ (i : Nat) (hi : i < cs.length), A.slots[i]? = some (.int cs[i]) := fun i hi => by rw [K5 i (by omega)]; simp [List.getD_eq_getElem?_getD, hi]
  have hcv : ∀ (i : Nat) (hi : i < cs.length), cv A i = cs[i] := fun i hi => by unfold cv; rw [hat i hi]
  have hty : Typed .char A := fun i v hv => by
    have hi : i < A.slots.size := (Array.getElem?_eq_some_iff.mp hv).1
    have q := K5 i hi
    rw [hv] at q
    rw [Option.some.inj q]
    exact K6 i hi
  refine Back.mono (back hZ hw wi E V C K1 hty S hz (by omega) (by omega) (fun i hi => by rw [hcv i (by omega)]; exact hall _ (List.getElem_mem _)) hfr hlo) (fun P a hp => ⟨hp.1, hp.2.1, hp.2.2.1, by rw [e]; exact hp.2.2.2⟩) (fun P a v B hp hq => ?_)
  obtain ⟨L, ⟨q1, q2, q3, q4, q5, q6, q7, ⟨V', v1, v2, v3, v4, v5⟩, q9⟩, hl, hc, hs⟩ := hq
  refine ⟨L, ⟨q1, q2, q3, q4, q5, q6, q7, ⟨V'.cls, v3, V', v1, rfl, by rw [v4, e, hlen], K4, fun i hi => ?_, fun i hi => ?_⟩, q9⟩, hl, hc, by rw [hs, e]⟩
  · have hi' : i < cs.length := by omega
    rw [v5 i (by omega), hcv i hi']; simp [List.getD_eq_getElem?_getD, hi']
  · have hi' : i < cs.length := by omega
    simp only [List.getD_eq_getElem?_getD, List.getElem?_map, List.getElem?_eq_getElem hi', Option.map_some, Option.getD_some]
    exact fits_lo8 _
end StrChars.Road
namespace StrChars.Road
open Jvm Sem ClassFile Op Lib Jvm.Stand Jvm.Free Jvm.Free.XT
/-- WHAT COMES BACK, in the writer's own shape -/
def QV (Z : State) (x : Addr) (N : Int32) (bs : List Int32) (h : Heap) (n0 : Nat) (v : Option Value) (h' : Heap) (L : List Loc) : Prop := v = none ∧ RoadKit.Fr n0 L ∧ RoadKit.Keep h h' [x] ∧ RoadKit.Exa Z h' x ST ∧ RoadKit.Fld Z h' x ST "coder" "B" (.int 0) ∧
  ∃ (t : Addr) (kb : ClassId), n0 ≤ t ∧ h.size ≤ t ∧ ¬ t = x ∧ RoadKit.Fld Z h' x ST "value" "[B" (.ref t) ∧ RoadKit.Arv Z h' t kb .byte N (bs.map Value.int) (.int 0)
/-- **new String(chars) AT A CALL, FOR THE WRITER**: a char[] of n known ints, each 0 to 255 -/
theorem backV {p : Program} {l : Launch} {e : Env} {R : Room} {s : State} {args : Array Value} {below : List Frame} {len W : Nat} {Z : State} {a0 : Array Value} {h : Heap} (hZ : Z.Warmed39 s.vm) (hw : ∀ d ∈ words, d.before a0 Z = true) {kI : Nat} (wi : (Jvm.Cond.instantiable ST kI).before a0 Z = true)
    {x b : Addr} {kC : ClassId} {cs bs : List Int32} {d v0 c0 : Value} {z N : Int32} {n n0 : Nat} (hx0 : n0 ≤ x) (hh0 : n0 ≤ h.size) (E : RoadKit.Exa Z h x ST) (V : RoadKit.Fld Z h x ST "value" "[B" v0) (C : RoadKit.Fld Z h x ST "coder" "B" c0) (K : RoadKit.Arv Z h b kC .char N (cs.map Value.int) d) (S : RoadKit.Sta Z h ST "COMPACT_STRINGS" "Z" (.int z)) (hz : ¬ z = 0)
    (hn : cs.length = n) (hN : N = Int32.ofNat n) (l0 : 0 < n) (l2 : n ≤ 4000) (hp : ∀ c ∈ cs, ¬ c < 0 ∧ ¬ (255 : Int32) < c) (hb : bs = cs.map (fun c => c.toInt8.toInt32)) (hfr : 4 ≤ R.frames) (hlo : W + 65 ≤ R.locals) :
    Back l R p e below s args (⟨"java/lang/String", "<init>", "([C)V"⟩ : MethodName) len W (fun P a => a = #[.ref x, .ref b] ∧ P.U.heap = h ∧ P.cells + 1 ≤ R.cells ∧ P.slots + n ≤ R.slots)
      (fun P _ v B => ∃ L, QV Z x N bs h n0 v B.U.heap L ∧ B.locs = P.locs ++ L ∧ B.cells = P.cells + 1 ∧ B.slots = P.slots + n) := by
  subst hn hN hb
  refine Back.mono (backArv hZ hw wi E V C K S hz (n32 (by omega)) l0 (by omega) (fun c hc => (hp c hc).2) hfr hlo) (fun P a hp => hp) (fun P a v B hp hq => ?_)
  obtain ⟨L, ⟨q1, q2, q3, q4, q5, q6, q7, ⟨kb, v1, v2⟩, q9⟩, hl, hc, hs⟩ := hq
  exact ⟨L, ⟨q1, fun y hy => by rw [q2 y hy]; exact hx0, q3, q5, q7, h.size, kb, hh0, Nat.le_refl _, Nat.ne_of_gt E.lt, q6, by rw [List.map_map]; exact v2⟩, hl, hc, hs⟩
end StrChars.Road
namespace StrChars
open Jvm Sem ClassFile Op Lib Jvm.Stand Jvm.Free.XT Jvm.Free.ALB Jvm.Free.JM Jvm.Free
open Jvm.Lib.Cold (StaticIs)
def hi8 (x : Int32) : Int32 := lo8 (x >>> ((8 : Int32) &&& 31))
/-- what StringUTF16.getChar makes of two bytes -/
def pairCh (u v : Int32) : Int32 := (((u &&& 255) <<< ((0 : Int32) &&& 31)) ||| ((v &&& 255) <<< ((8 : Int32) &&& 31))).toUInt32.toUInt16.toUInt32.toInt32
theorem lo8_and (x : Int32) : (lo8 x &&& 255).toBitVec.toNat = x.toBitVec.toNat % 256 := by
  have h : (lo8 x).toBitVec = (x.toBitVec.signExtend 8).signExtend 32 := by rw [lo8, Int8.toBitVec_toInt32, Int32.toBitVec_toInt8]
  rw [Int32.toBitVec_and, BitVec.toNat_and, h]
  have e : ((x.toBitVec.signExtend 8).signExtend 32).toNat % 256 = x.toBitVec.toNat % 256 := by
    rw [BitVec.toNat_signExtend]
    have hlt := x.toBitVec.isLt
    simp only [BitVec.toNat_setWidth, BitVec.toNat_signExtend]
    split <;> split <;> omega
  rw [← e]
  exact Nat.and_two_pow_sub_one_eq_mod _ 8
theorem pair_says {c : Int32} (h0 : ¬ c < 0) (h1 : ¬ 65535 < c) : pairCh (lo8 c) (hi8 c) = c := by
  rw [Int32.lt_iff_toInt_lt] at h0 h1
  have e0 : (0 : Int32).toInt = 0 := rfl
  have e1 : (65535 : Int32).toInt = 65535 := rfl
  have hc : c.toInt = c.toBitVec.toNat := by
    have := c.toBitVec.isLt
    have e : c.toInt = c.toBitVec.toInt := rfl
    rw [e] at h0 h1
    rw [e]
    rw [BitVec.toInt_eq_toNat_cond] at h0 h1 ⊢
    split at h0 <;> split <;> omega
  have hn : c.toBitVec.toNat < 65536 := by omega
  have a1 := lo8_and c
  have a2 : (hi8 c &&& 255).toBitVec.toNat = c.toBitVec.toNat / 256 := by
    rw [hi8, lo8_and]
    have e : ((8 : Int32) &&& 31) = 8 := by decide
    rw [e, Int32.toBitVec_shiftRight]
    have e2 : ((8 : Int32).toBitVec.smod 32) = 8#32 := by decide
    rw [e2, BitVec.sshiftRight_eq', BitVec.toNat_sshiftRight_of_msb_false (by rw [BitVec.msb_eq_false_iff_two_mul_lt]; omega)]
    show c.toBitVec.toNat >>> 8 % 256 = _
    rw [Nat.shiftRight_eq_div_pow]
    omega
  unfold pairCh
  apply Int32.toBitVec_inj.mp
  apply BitVec.eq_of_toNat_eq
  have f0 : ((0 : Int32) &&& 31) = 0 := by decide
  have f8 : ((8 : Int32) &&& 31) = 8 := by decide
  rw [f0, f8]
  have g : (((lo8 c &&& 255) <<< (0 : Int32)) ||| ((hi8 c &&& 255) <<< (8 : Int32))).toBitVec.toNat = c.toBitVec.toNat := by
    rw [Int32.toBitVec_or, Int32.toBitVec_shiftLeft, Int32.toBitVec_shiftLeft]
    have s0 : ((0 : Int32).toBitVec.smod 32) = 0#32 := by decide
    have s8 : ((8 : Int32).toBitVec.smod 32) = 8#32 := by decide
    rw [s0, s8, BitVec.toNat_or]
    simp only [BitVec.shiftLeft_eq', BitVec.toNat_shiftLeft, a1, a2]
    show (c.toBitVec.toNat % 256) <<< 0 % 2 ^ 32 ||| (c.toBitVec.toNat / 256) <<< 8 % 2 ^ 32 = _
    rw [Nat.shiftLeft_zero, Nat.mod_eq_of_lt (show c.toBitVec.toNat % 256 < 2 ^ 32 by omega), Nat.mod_eq_of_lt (show (c.toBitVec.toNat / 256) <<< 8 < 2 ^ 32 by rw [Nat.shiftLeft_eq]; omega), Nat.or_comm, ← Nat.shiftLeft_add_eq_or_of_lt (by omega), Nat.shiftLeft_eq]
    omega
  show BitVec.toNat (((((lo8 c &&& 255) <<< (0 : Int32)) ||| ((hi8 c &&& 255) <<< (8 : Int32))).toBitVec.setWidth 16).setWidth 32) = _
  rw [BitVec.toNat_setWidth, BitVec.toNat_setWidth, g]
  omega
end StrChars
namespace StrChars
open Jvm Sem ClassFile Op Lib Jvm.Stand Jvm.Free.XT Jvm.Free.ALB Jvm.Free.JM Jvm.Free
open Jvm.Lib.Cold (StaticIs)
/-- the array's cell V codes the n chars f 0 .. f (n - 1) by the coder cd, as the JDK does: coder 1 just where some char is above 255 -/
def Cod (cd : Int32) (n : Nat) (f : Nat → Int32) (V : Cell) : Prop := (cd = 0 ∧ V.slots.size = n ∧ ∀ j, j < n → V.slots[j]? = some (.int (lo8 (f j))) ∧ ¬ 255 < f j) ∨ (cd = 1 ∧ V.slots.size = 2 * n ∧ (∀ j, j < n → V.slots[2 * j]? = some (.int (lo8 (f j))) ∧ V.slots[2 * j + 1]? = some (.int (hi8 (f j)))) ∧ ∃ j, j < n ∧ 255 < f j)
/-- **x is a String of the n chars f 0 .. f (n - 1)**, Latin-1 or UTF-16; its array at t has the cell V -/
def Txt (x t : Addr) (V : Cell) (cd : Int32) (n : Nat) (f : Nat → Int32) (U : State) : Prop := Exact "java/lang/String" x U ∧ Has x "java/lang/String" "value" "[B" (.ref t) U ∧ Has x "java/lang/String" "coder" "B" (.int cd) U ∧ XT.Arr .byte t V U ∧ Cod cd n f V ∧ ∀ j, j < n → ¬ f j < 0 ∧ ¬ 65535 < f j
theorem Txt.mv {x t : Addr} {V : Cell} {cd : Int32} {n : Nat} {f : Nat → Int32} {U U' : State} (h : Txt x t V cd n f U) (hal : U.vm.Alike U'.vm) (hh : U'.heap = U.heap) : Txt x t V cd n f U' := ⟨h.1.mv hal hh, h.2.1.mv hal hh, h.2.2.1.mv hal hh, h.2.2.2.1.mv hal hh, h.2.2.2.2⟩
end StrChars
namespace StrChars.Road
open Jvm Sem ClassFile Op Lib Jvm.Stand Jvm.Free Jvm.Free.XT
open Jvm.Lib.Cold (StaticIs)
theorem consq {a : Array Value} {s : State} {c : Jvm.Cond} {L : List Jvm.Cond} (h0 : c.before a s = true) (h : ∀ w ∈ L, w.before a s = true) : ∀ w ∈ c :: L, w.before a s = true := fun w hw => (List.mem_cons.mp hw).elim (fun e => e ▸ h0) (h w)
/-- the bytes of the chars cs, low before high -/
def wideBytes : List Int32 → List Value
  | [] => []
  | c :: cs => .int (lo8 c) :: .int (hi8 c) :: wideBytes cs
theorem wide_lo (d : Value) : ∀ (cs : List Int32) (j : Nat), j < cs.length → (wideBytes cs).getD (2 * j) d = .int (lo8 (cs.getD j 0))
  | [], j, h => absurd h (Nat.not_lt_zero j)
  | c :: cs, 0, _ => rfl
  | c :: cs, j + 1, h => by
    have q := wide_lo d cs j (by simpa using h)
    rw [show 2 * (j + 1) = 2 * j + 1 + 1 from by omega]
    simpa [wideBytes] using q
theorem wide_hi (d : Value) : ∀ (cs : List Int32) (j : Nat), j < cs.length → (wideBytes cs).getD (2 * j + 1) d = .int (hi8 (cs.getD j 0))
  | [], j, h => absurd h (Nat.not_lt_zero j)
  | c :: cs, 0, _ => rfl
  | c :: cs, j + 1, h => by
    have q := wide_hi d cs j (by simpa using h)
    rw [show 2 * (j + 1) + 1 = 2 * j + 1 + 1 + 1 from by omega]
    simpa [wideBytes] using q
theorem low_at (d : Value) (cs : List Int32) (j : Nat) (h : j < cs.length) : (cs.map fun c => Value.int (lo8 c)).getD j d = .int (lo8 (cs.getD j 0)) := by
  simp [List.getD_eq_getElem?_getD, h]
/-- an array of N2 bytes vs codes the chars cs by the coder cd -/
def CodA (cs : List Int32) (cd N2 : Int32) (vs : List Value) : Prop := (cd = 0 ∧ N2 = Int32.ofNat cs.length ∧ vs = (cs.map fun c => Value.int (lo8 c)) ∧ ∀ c ∈ cs, ¬ 255 < c) ∨ (cd = 1 ∧ N2 = Int32.ofNat (2 * cs.length) ∧ vs = wideBytes cs ∧ ∃ c ∈ cs, 255 < c)
theorem CodA.cod {cs : List Int32} {cd N2 : Int32} {vs : List Value} {V : Cell} (h : CodA cs cd N2 vs) (hn : 2 * cs.length < 2 ^ 31) (hs : V.slots.size = N2.toNatClampNeg) (hv : RoadKit.Has V vs (.int 0)) : Cod cd cs.length (fun j => cs.getD j 0) V := by
  rcases h with ⟨rfl, rfl, rfl, h⟩ | ⟨rfl, rfl, rfl, c, hc, hw⟩
  · rw [n32 (by omega)] at hs
    exact Or.inl ⟨rfl, hs, fun j hj => ⟨by rw [hv j (by omega), low_at _ _ _ hj], by
      have e : cs.getD j 0 = cs[j] := by simp [List.getD_eq_getElem?_getD, hj]
      show ¬ 255 < cs.getD j 0
      rw [e]; exact h _ (List.getElem_mem _)⟩⟩
  · rw [n32 (by omega)] at hs
    obtain ⟨j, hj, rfl⟩ := List.getElem_of_mem hc
    exact Or.inr ⟨rfl, hs, fun j hj => ⟨by rw [hv _ (by omega), wide_lo _ _ _ hj], by rw [hv _ (by omega), wide_hi _ _ _ hj]⟩, j, hj, by
      have e : cs.getD j 0 = cs[j] := by simp [List.getD_eq_getElem?_getD, hj]
      show 255 < cs.getD j 0
      rw [e]; exact hw⟩
/-- an object of exactly java/lang/String, its two fields found: as the laws ask it -/
theorem strObj {Z U : State} {a0 : Array Value} {kI : Nat} (wi : (Jvm.Cond.instantiable ST kI).before a0 Z = true) (al : Z.vm.Alike U.vm) {x : Addr} {v0 c0 : Value} (E : RoadKit.Exa Z U.heap x ST) (V : RoadKit.Fld Z U.heap x ST "value" "[B" v0) (C : RoadKit.Fld Z U.heap x ST "coder" "B" c0) :
    ∃ (D : Cell) (fV fC : Field), Blank ST x D U ∧ Found ST "value" "[B" fV U ∧ Found ST "coder" "B" fC U ∧ D.slots[fV.slot]? = some v0 ∧ D.slots[fC.slot]? = some c0 ∧ RoadKit.slotOf Z ST "value" "[B" = fV.slot ∧ RoadKit.slotOf Z ST "coder" "B" = fC.slot := by
  obtain ⟨D, cfV, kV, iV, fV, hD, gV, stV, knV, obV, asV, slV⟩ := V
  obtain ⟨D', cfC, kC, iC, fC, hD', gC, stC, -, -, asC, slC⟩ := C
  cases hD.symm.trans hD'
  obtain ⟨D2, kD, e1, e2, e3, e4, e5⟩ := E
  cases hD.symm.trans e1
  obtain ⟨c2, k2, i1, i2, i3, -⟩ := Cond.instantiable_spec wi
  cases e2.symm.trans i1
  cases e3.symm.trans i2
  obtain ⟨kU, u1, u2⟩ := al.2.2 _ _ e3
  exact ⟨D, fV, fC, ⟨hD, ⟨knV, fun q hq => by rw [hq] at obV; cases obV⟩, by rw [al.findClass]; exact e2, kU, u1, by rw [u2]; exact i3, by rw [u2]; exact e5 i3⟩, ⟨SBG.found_only al ⟨cfV, kV, iV, gV⟩, stV⟩, ⟨SBG.found_only al ⟨cfC, kC, iC, gC⟩, stC⟩, slV, slC, by simp [RoadKit.slotOf, gV], by simp [RoadKit.slotOf, gC]⟩
theorem sta_is {Z U : State} (al : Z.vm.Alike U.vm) {C n d : String} {v : Value} (S : RoadKit.Sta Z U.heap C n d v) : StaticIs U C n d v := by
  obtain ⟨cfS, iS, kS, fS, st, cS, t1, t2, t3, t4, t5, t6, t7⟩ := S
  exact StaticIs.there (s := { Z with heap := U.heap }) ⟨cfS, iS, kS, fS, st, cS, t1, t2, t3, t4, t5, (fun q => by rw [q] at t6; cases t6), t7⟩ al rfl
end StrChars.Road
namespace StrChars
open Jvm Sem ClassFile Op Lib Jvm.Stand Jvm.Free.XT Jvm.Free.ALB Jvm.Free.JM Jvm.Free
open Jvm.Lib.Cold (StaticIs)
/-- what place i of a byte[]'s cell holds -/
def yv (A : Cell) (i : Nat) : Int32 := match A.slots[i]? with | some (.int x) => x | _ => 0
theorem yv_get {a : Addr} {A : Cell} {U : State} (h : XT.Arr .byte a A U) (ht : Typed .byte A) {i : Nat} (hi : i < A.slots.size) : A.slots[i]? = some (.int (yv A i)) := by
  have e := Array.getElem?_eq_getElem hi
  have f := ht i _ e
  unfold yv; rw [e]
  generalize A.slots[i] = v at f
  cases v <;> simp [fits] at f ⊢
/-- the two arrays are equal, place for place -/
def EqC (A B : Cell) : Prop := A.slots.size = B.slots.size ∧ ∀ i, i < A.slots.size → yv A i = yv B i
/-- a boolean that says whether p -/
def Says01 (q : Prop) (r : Option Value) (s u : State) : Prop := ∃ v : Int32, r = some (.int v) ∧ u.heap = s.heap ∧ ((v = 1 ∧ q) ∨ (v = 0 ∧ ¬ q))
theorem Says01.mv {q : Prop} : ∀ r (U U' V V' : State), U'.heap = U.heap → V.vm.Alike V'.vm → V'.heap = V.heap → Says01 q r U V → Says01 q r U' V' :=
  fun r U U' V V' h1 _ h2 ⟨v, a, b, c⟩ => ⟨v, a, by rw [h1, h2]; exact b, c⟩
namespace LEq
def yN : MethodName := ⟨"java/lang/StringLatin1", "equals", "([B[B)Z"⟩
abbrev yB : ByteArray := jdk_43_method_13_code
theorem d0 : decode yB 0 = .ok (.aload_n 0, 1) := by decide +kernel
theorem d1 : decode yB 1 = .ok (.arraylength, 1) := by decide +kernel
theorem d2 : decode yB 2 = .ok (.aload_n 1, 1) := by decide +kernel
theorem d3 : decode yB 3 = .ok (.arraylength, 1) := by decide +kernel
theorem d4 : decode yB 4 = .ok (.if_icmp (.ne) 30, 3) := by decide +kernel
theorem d7 : decode yB 7 = .ok (.iconst 0, 1) := by decide +kernel
theorem d8 : decode yB 8 = .ok (.istore_n 2, 1) := by decide +kernel
theorem d9 : decode yB 9 = .ok (.iload_n 2, 1) := by decide +kernel
theorem d10 : decode yB 10 = .ok (.aload_n 0, 1) := by decide +kernel
theorem d11 : decode yB 11 = .ok (.arraylength, 1) := by decide +kernel
theorem d12 : decode yB 12 = .ok (.if_icmp (.ge) 20, 3) := by decide +kernel
theorem d15 : decode yB 15 = .ok (.aload_n 0, 1) := by decide +kernel
theorem d16 : decode yB 16 = .ok (.iload_n 2, 1) := by decide +kernel
theorem d17 : decode yB 17 = .ok (.baload, 1) := by decide +kernel
theorem d18 : decode yB 18 = .ok (.aload_n 1, 1) := by decide +kernel
theorem d19 : decode yB 19 = .ok (.iload_n 2, 1) := by decide +kernel
theorem d20 : decode yB 20 = .ok (.baload, 1) := by decide +kernel
theorem d21 : decode yB 21 = .ok (.if_icmp (.eq) 5, 3) := by decide +kernel
theorem d24 : decode yB 24 = .ok (.iconst 0, 1) := by decide +kernel
theorem d25 : decode yB 25 = .ok (.ireturn, 1) := by decide +kernel
theorem d26 : decode yB 26 = .ok (.iinc 2 1, 3) := by decide +kernel
theorem d29 : decode yB 29 = .ok (.goto (-20), 3) := by decide +kernel
theorem d32 : decode yB 32 = .ok (.iconst 1, 1) := by decide +kernel
theorem d33 : decode yB 33 = .ok (.ireturn, 1) := by decide +kernel
theorem d34 : decode yB 34 = .ok (.iconst 0, 1) := by decide +kernel
theorem d35 : decode yB 35 = .ok (.ireturn, 1) := by decide +kernel
def site : List Cond := []
def tab : Cond := tabOf yN yB 3 (some .boolean) site
def P (a : Addr) (A : Cell) (b : Addr) (B : Cell) (args : Array Value) (s : State) : Prop := args = #[.ref a, .ref b] ∧ XT.Arr .byte a A s ∧ Typed .byte A ∧ XT.Arr .byte b B s ∧ Typed .byte B
/-- whether two byte[] are equal, place for place -/
theorem law (l : Launch) (a : Addr) (A : Cell) (b : Addr) (B : Cell) : Law l yN 2 2 0 0 yB 3 (some .boolean) site (P a A b B) (Says01 (EqC A B)) [] 0 0 := by
  refine Law.of_walk (plainFor_of_name (by decide +kernel)) (by decide +kernel) (by decide +kernel) (by decide) (fun _ _ h => by rw [h.1]; rfl) (fun _ U U' hal hh h => ⟨h.1, h.2.1.mv hal hh, h.2.2.1, h.2.2.2.1.mv hal hh, h.2.2.2.2⟩) (fun r U U' V V' h1 hal h2 h => Says01.mv r U U' V V' h1 hal h2 h) ?_
  intro p e s m args below meth c s₁ X0 hexec hbytes hml hret hlk hnm hown hh0 W hP
  obtain ⟨rfl, hA, tA, hB, tB⟩ := hP
  have a31 := hA.2.2.2
  have b31 := hB.2.2.2
  have hA0 := hA.mv X0.warmed.alike hh0
  have hB0 := hB.mv X0.warmed.alike hh0
  have c1 : Steps p.tables e below (s₁.setTop (entryFrame m #[.ref a, .ref b] 3)) (s₁.setTop (mkF m 0 #[.val (.ref a), .val (.ref b), .unset] [])) := entry rfl
  have c2 : Steps p.tables e below (s₁.setTop (entryFrame m #[.ref a, .ref b] 3)) (s₁.setTop (mkF m 4 #[.val (.ref a), .val (.ref b), .unset] [.int (Int32.ofNat B.slots.size), .int (Int32.ofNat A.slots.size)])) := c1.trans (by
    refine XS.aloadN X0.here hexec rfl (hb hbytes d0) rfl rfl ?_
    refine X0.alen hexec hA0 rfl rfl (hb hbytes d1) ?_
    refine XS.aloadN X0.here hexec rfl (hb hbytes d2) rfl rfl ?_
    refine X0.alen hexec hB0 rfl rfl (hb hbytes d3) ?_
    exact Steps.refl _)
  by_cases hs : A.slots.size = B.slots.size
  · have c3 : Steps p.tables e below (s₁.setTop (entryFrame m #[.ref a, .ref b] 3)) (s₁.setTop (mkF m 9 #[.val (.ref a), .val (.ref b), .val (.int 0)] [])) := c2.trans (by
      refine XS.icmpNo X0.here hexec rfl (hb hbytes d4) rfl (ii_ne_f (by rw [hs])) ?_
      refine iconstV X0.here hexec rfl 0 (hb hbytes d7) (by decide) ?_
      refine XS.istoreN X0.here hexec rfl (hb hbytes d8) rfl rfl ?_
      exact Steps.refl _)
    have loop : ∀ (r i : Nat), i + r = A.slots.size → (∀ j, j < i → yv A j = yv B j) → Steps p.tables e below (s₁.setTop (entryFrame m #[.ref a, .ref b] 3)) (s₁.setTop (mkF m 9 #[.val (.ref a), .val (.ref b), .val (.int (Int32.ofNat i))] [])) → ∃ (pc : Nat) (Ls : Array Slot) (v : Int32), (pc = 25 ∨ pc = 33) ∧ ((v = 1 ∧ EqC A B) ∨ (v = 0 ∧ ¬ EqC A B)) ∧ Steps p.tables e below (s₁.setTop (entryFrame m #[.ref a, .ref b] 3)) (s₁.setTop (mkF m pc Ls [.int v])) := by
      intro r
      induction r with
      | zero =>
        intro i hi he cl
        exact ⟨33, _, 1, Or.inr rfl, Or.inl ⟨rfl, hs, fun j hj => he j (by omega)⟩, cl.trans (by
          refine XS.iloadN X0.here hexec rfl (hb hbytes d9) rfl ?_
          refine XS.aloadN X0.here hexec rfl (hb hbytes d10) rfl rfl ?_
          refine X0.alen hexec hA0 rfl rfl (hb hbytes d11) ?_
          refine XS.icmpYes X0.here hexec rfl (pc0 := 12) rfl (hb hbytes d12) rfl (ii_ge_t (nlt32 (by omega) (by omega))) (by decide) rfl ?_
          refine iconstV X0.here hexec rfl 1 (hb hbytes d32) (by decide) ?_
          exact Steps.refl _)⟩
      | succ r ih =>
        intro i hi he cl
        have c4 : Steps p.tables e below (s₁.setTop (entryFrame m #[.ref a, .ref b] 3)) (s₁.setTop (mkF m 21 #[.val (.ref a), .val (.ref b), .val (.int (Int32.ofNat i))] [.int (yv B i), .int (yv A i)])) := cl.trans (by
          refine XS.iloadN X0.here hexec rfl (hb hbytes d9) rfl ?_
          refine XS.aloadN X0.here hexec rfl (hb hbytes d10) rfl rfl ?_
          refine X0.alen hexec hA0 rfl rfl (hb hbytes d11) ?_
          refine XS.icmpNo X0.here hexec rfl (hb hbytes d12) rfl (ii_ge_f (lt32 (by omega) (by omega))) ?_
          refine XS.aloadN X0.here hexec rfl (hb hbytes d15) rfl rfl ?_
          refine XS.iloadN X0.here hexec rfl (hb hbytes d16) rfl ?_
          refine X0.aget hexec hA0 rfl (yv_get hA tA (i := i) (by omega)) rfl rfl (hb hbytes d17) ?_
          refine XS.aloadN X0.here hexec rfl (hb hbytes d18) rfl rfl ?_
          refine XS.iloadN X0.here hexec rfl (hb hbytes d19) rfl ?_
          refine X0.aget hexec hB0 rfl (yv_get hB tB (i := i) (by omega)) rfl rfl (hb hbytes d20) ?_
          exact Steps.refl _)
        by_cases hv : yv A i = yv B i
        · have c5 : Steps p.tables e below (s₁.setTop (entryFrame m #[.ref a, .ref b] 3)) (s₁.setTop (mkF m 9 #[.val (.ref a), .val (.ref b), .val (.int (Int32.ofNat i + 1))] [])) := c4.trans (by
            refine XS.icmpYes X0.here hexec rfl (pc0 := 21) rfl (hb hbytes d21) rfl (ii_eq_t hv) (by decide) rfl ?_
            refine iincV X0.here hexec rfl 1 (hb hbytes d26) (by decide) rfl rfl ?_
            refine XS.goto X0.here hexec rfl (pc0 := 29) rfl (hb hbytes d29) (by decide) rfl ?_
            exact Steps.refl _)
          rw [succ32] at c5
          exact ih (i + 1) (by omega) (fun j hj => by
            by_cases e : j = i
            · rw [e]; exact hv
            · exact he j (by omega)) c5
        · exact ⟨25, _, 0, Or.inl rfl, Or.inr ⟨rfl, fun q => hv (q.2 i (by omega))⟩, c4.trans (by
            refine XS.icmpNo X0.here hexec rfl (hb hbytes d21) rfl (ii_eq_f hv) ?_
            refine iconstV X0.here hexec rfl 0 (hb hbytes d24) (by decide) ?_
            exact Steps.refl _)⟩
    obtain ⟨pc, Ls, v, hpc, hv, cz⟩ := loop A.slots.size 0 (by omega) (fun j hj => absurd hj (Nat.not_lt_zero j)) c3
    have nv : narrow .boolean (.int v) = .int v := by rcases hv with ⟨rfl, -⟩ | ⟨rfl, -⟩ <;> rfl
    rcases hpc with rfl | rfl
    · exact ⟨s₁, some (.int v), _, _, _, X0, rfl, rfl, rfl, (fun h => by cases h), ⟨v, rfl, hh0, hv⟩, fun fs hl => cz.trans (X0.ireturnOut hexec hret nv (Or.inr (Or.inl rfl)) (hb hbytes d25) hl)⟩
    · exact ⟨s₁, some (.int v), _, _, _, X0, rfl, rfl, rfl, (fun h => by cases h), ⟨v, rfl, hh0, hv⟩, fun fs hl => cz.trans (X0.ireturnOut hexec hret nv (Or.inr (Or.inl rfl)) (hb hbytes d33) hl)⟩
  · have c3 : Steps p.tables e below (s₁.setTop (entryFrame m #[.ref a, .ref b] 3)) (s₁.setTop (mkF m 35 #[.val (.ref a), .val (.ref b), .unset] [.int 0])) := c2.trans (by
      refine XS.icmpYes X0.here hexec rfl (pc0 := 4) rfl (hb hbytes d4) rfl (ii_ne_t (ne32 a31 b31 hs)) (by decide) rfl ?_
      refine iconstV X0.here hexec rfl 0 (hb hbytes d34) (by decide) ?_
      exact Steps.refl _)
    exact ⟨s₁, some (.int 0), _, _, _, X0, rfl, rfl, rfl, (fun h => by cases h), ⟨0, rfl, hh0, Or.inr ⟨rfl, fun q => hs q.1⟩⟩, fun fs hl => c3.trans (X0.ireturnOut hexec hret rfl (Or.inr (Or.inl rfl)) (hb hbytes d35) hl)⟩
end LEq
theorem Cod.ty {cd : Int32} {n : Nat} {f : Nat → Int32} {V : Cell} (h : Cod cd n f V) : Typed .byte V := fun i v hv => by
  have hi : i < V.slots.size := (Array.getElem?_eq_some_iff.mp hv).1
  rcases h with ⟨-, k1, k2⟩ | ⟨-, k1, k2, -⟩
  · rw [(k2 i (by omega)).1] at hv; cases hv; exact fits_lo8 _
  · rcases Nat.mod_two_eq_zero_or_one i with e | e
    · obtain ⟨j, rfl⟩ : ∃ j, i = 2 * j := ⟨i / 2, by omega⟩
      rw [(k2 j (by omega)).1] at hv; cases hv; exact fits_lo8 _
    · obtain ⟨j, rfl⟩ : ∃ j, i = 2 * j + 1 := ⟨i / 2, by omega⟩
      rw [(k2 j (by omega)).2] at hv; cases hv; exact fits_lo8 _
/-- the same text -/
def SameT (n : Nat) (f : Nat → Int32) (k : Nat) (g : Nat → Int32) : Prop := n = k ∧ ∀ j, j < n → f j = g j
theorem lo8_inj {x y : Int32} (h0 : ¬ x < 0) (h1 : ¬ 255 < x) (k0 : ¬ y < 0) (k1 : ¬ 255 < y) (h : lo8 x = lo8 y) : x = y := by
  rw [← lo8_mask h0 h1, ← lo8_mask k0 k1, h]
/-- arrays coded by one coder are equal just where the texts are -/
theorem Cod.eqv {cd : Int32} {n k : Nat} {f g : Nat → Int32} {V V' : Cell} (h : Cod cd n f V) (h' : Cod cd k g V') (hf : ∀ j, j < n → ¬ f j < 0 ∧ ¬ 65535 < f j) (hg : ∀ j, j < k → ¬ g j < 0 ∧ ¬ 65535 < g j) : EqC V V' ↔ SameT n f k g := by
  have yvv : ∀ {W : Cell} {i : Nat} {x : Int32}, W.slots[i]? = some (.int x) → yv W i = x := fun q => by unfold yv; rw [q]
  rcases h with ⟨rfl, k1, k2⟩ | ⟨rfl, k1, k2, -⟩
  · rcases h' with ⟨-, m1, m2⟩ | ⟨e, -⟩
    · constructor
      · rintro ⟨e1, e2⟩
        refine ⟨by omega, fun j hj => ?_⟩
        have q := e2 j (by omega)
        rw [yvv (k2 j hj).1, yvv (m2 j (by omega)).1] at q
        exact lo8_inj (hf j hj).1 (k2 j hj).2 (hg j (by omega)).1 (m2 j (by omega)).2 q
      · rintro ⟨rfl, e2⟩
        refine ⟨by omega, fun j hj => ?_⟩
        rw [yvv (k2 j (by omega)).1, yvv (m2 j (by omega)).1, e2 j (by omega)]
    · exact absurd e (by decide)
  · rcases h' with ⟨e, -⟩ | ⟨-, m1, m2, -⟩
    · exact absurd e (by decide)
    · constructor
      · rintro ⟨e1, e2⟩
        refine ⟨by omega, fun j hj => ?_⟩
        have q1 := e2 (2 * j) (by omega)
        have q2 := e2 (2 * j + 1) (by omega)
        rw [yvv (k2 j hj).1, yvv (m2 j (by omega)).1] at q1
        rw [yvv (k2 j hj).2, yvv (m2 j (by omega)).2] at q2
        rw [← pair_says (hf j hj).1 (hf j hj).2, ← pair_says (hg j (by omega)).1 (hg j (by omega)).2, q1, q2]
      · rintro ⟨rfl, e2⟩
        refine ⟨by omega, fun i hi => ?_⟩
        rcases Nat.mod_two_eq_zero_or_one i with e | e
        · obtain ⟨j, rfl⟩ : ∃ j, i = 2 * j := ⟨i / 2, by omega⟩
          rw [yvv (k2 j (by omega)).1, yvv (m2 j (by omega)).1, e2 j (by omega)]
        · obtain ⟨j, rfl⟩ : ∃ j, i = 2 * j + 1 := ⟨i / 2, by omega⟩
          rw [yvv (k2 j (by omega)).2, yvv (m2 j (by omega)).2, e2 j (by omega)]
/-- two codings differ: so do the texts -/
theorem Cod.dif {cd cd' : Int32} {n k : Nat} {f g : Nat → Int32} {V V' : Cell} (h : Cod cd n f V) (h' : Cod cd' k g V') (hne : ¬ cd = cd') : ¬ SameT n f k g := by
  rintro ⟨rfl, e⟩
  rcases h with ⟨rfl, -, k2⟩ | ⟨rfl, -, -, j, hj, hw⟩
  · rcases h' with ⟨rfl, -⟩ | ⟨-, -, -, j, hj, hw⟩
    · exact hne rfl
    · exact (k2 j hj).2 (by rw [e j hj]; exact hw)
  · rcases h' with ⟨-, -, m2⟩ | ⟨rfl, -⟩
    · exact (m2 j hj).2 (by rw [← e j hj]; exact hw)
    · exact hne rfl
/-- an object of exactly C is an instance of C -/
theorem cinst {p : Program} {l : Launch} {e : Env} {R : Room} {s : State} {m : MethodId} {args : Array Value} {below : List Frame} {meth : Method} {c : Code} {T : State} {locs : List Loc} {cells slots : Nat} (X : Stand p l e R s m args below meth c T locs cells slots) (hexec : p.tables.exec = Jvm.exec) {own C : String} {index : Nat} (hown : s.vm.findClass own = some m.cls) (hlink : (Cond.classLink own index C).before args s = true) {a : Addr} (hE : Exact C a T)
    {g : JFrame} (hg : g.method = m) {rest : List Value} (hstack : g.stack = .ref a :: rest) (hdg : decode c.code g.pc = .ok (.instanceof index, 3)) :
    ∃ T', Stand p l e R s m args below meth c T' locs cells slots ∧ T'.heap = T.heap ∧ ∀ target, Steps p.tables e below (T'.setTop { g with pc := g.pc + 3, stack := .int 1 :: rest }) target → Steps p.tables e below (T.setTop g) target := by
  obtain ⟨cB, h1, D, h2, h3, h4⟩ := hE
  have h1' : s.vm.findClass C = some cB := by rw [← X.warmed.alike.findClass]; exact h1
  obtain ⟨vm', X', st⟩ := X.instanceofYes hexec hown hlink h2 h4 h1' (by rw [h3]; exact Jvm.Free.SB.assignable_self _ _) hg hstack hdg
  exact ⟨_, X', rfl, st⟩
theorem cself {p : Program} {l : Launch} {e : Env} {R : Room} {s : State} {m : MethodId} {args : Array Value} {below : List Frame} {meth : Method} {c : Code} {T : State} {locs : List Loc} {cells slots : Nat} (X : Stand p l e R s m args below meth c T locs cells slots) (hexec : p.tables.exec = Jvm.exec) {own C : String} {index : Nat} (hown : s.vm.findClass own = some m.cls) (hlink : (Cond.classLink own index C).before args s = true) {a : Addr} (hE : Exact C a T)
    {g : JFrame} (hg : g.method = m) {rest : List Value} (hstack : g.stack = .ref a :: rest) (hdg : decode c.code g.pc = .ok (.checkcast index, 3)) :
    ∃ T', Stand p l e R s m args below meth c T' locs cells slots ∧ T'.heap = T.heap ∧ ∀ target, Steps p.tables e below (T'.setTop { g with pc := g.pc + 3, stack := .ref a :: rest }) target → Steps p.tables e below (T.setTop g) target := by
  obtain ⟨cB, h1, D, h2, h3, h4⟩ := hE
  have h1' : s.vm.findClass C = some cB := by rw [← X.warmed.alike.findClass]; exact h1
  obtain ⟨vm', X', st⟩ := X.checkcastYes hexec hown hlink h2 h4 h1' (by rw [h3]; exact Jvm.Free.SB.assignable_self _ _) hg hstack hdg
  exact ⟨_, X', rfl, fun t h => st t (by rw [← hstack] at h; exact h)⟩
namespace SEq
def yN : MethodName := ⟨"java/lang/String", "equals", "(Ljava/lang/Object;)Z"⟩
abbrev yB : ByteArray := jdk_42_method_66_code
theorem d0 : decode yB 0 = .ok (.aload_n 0, 1) := by decide +kernel
theorem d1 : decode yB 1 = .ok (.aload_n 1, 1) := by decide +kernel
theorem d2 : decode yB 2 = .ok (.if_acmp (.ne) 5, 3) := by decide +kernel
theorem d5 : decode yB 5 = .ok (.iconst 1, 1) := by decide +kernel
theorem d6 : decode yB 6 = .ok (.ireturn, 1) := by decide +kernel
theorem d7 : decode yB 7 = .ok (.aload_n 1, 1) := by decide +kernel
theorem d8 : decode yB 8 = .ok (.instanceof 10, 3) := by decide +kernel
theorem d11 : decode yB 11 = .ok (.ifCond (.eq) 43, 3) := by decide +kernel
theorem d14 : decode yB 14 = .ok (.aload_n 1, 1) := by decide +kernel
theorem d15 : decode yB 15 = .ok (.checkcast 10, 3) := by decide +kernel
theorem d18 : decode yB 18 = .ok (.astore_n 2, 1) := by decide +kernel
theorem d19 : decode yB 19 = .ok (.getstatic 38, 3) := by decide +kernel
theorem d22 : decode yB 22 = .ok (.ifCond (.eq) 14, 3) := by decide +kernel
theorem d25 : decode yB 25 = .ok (.aload_n 0, 1) := by decide +kernel
theorem d26 : decode yB 26 = .ok (.getfield 15, 3) := by decide +kernel
theorem d29 : decode yB 29 = .ok (.aload_n 2, 1) := by decide +kernel
theorem d30 : decode yB 30 = .ok (.getfield 15, 3) := by decide +kernel
theorem d33 : decode yB 33 = .ok (.if_icmp (.ne) 21, 3) := by decide +kernel
theorem d36 : decode yB 36 = .ok (.aload_n 0, 1) := by decide +kernel
theorem d37 : decode yB 37 = .ok (.getfield 9, 3) := by decide +kernel
theorem d40 : decode yB 40 = .ok (.aload_n 2, 1) := by decide +kernel
theorem d41 : decode yB 41 = .ok (.getfield 9, 3) := by decide +kernel
theorem d44 : decode yB 44 = .ok (.invokestatic 541, 3) := by decide +kernel
theorem d47 : decode yB 47 = .ok (.ifCond (.eq) 7, 3) := by decide +kernel
theorem d50 : decode yB 50 = .ok (.iconst 1, 1) := by decide +kernel
theorem d51 : decode yB 51 = .ok (.goto 4, 3) := by decide +kernel
theorem d54 : decode yB 54 = .ok (.iconst 0, 1) := by decide +kernel
theorem d55 : decode yB 55 = .ok (.ireturn, 1) := by decide +kernel
def site : List Cond := [.classLink "java/lang/String" 10 "java/lang/String", .fieldLink "java/lang/String" 38 "java/lang/String" "COMPACT_STRINGS" "Z", .fieldLink "java/lang/String" 15 "java/lang/String" "coder" "B", .fieldLink "java/lang/String" 9 "java/lang/String" "value" "[B", LEq.tab] ++ staticW "java/lang/String" 541 LEq.yN
def tab : Cond := tabOf yN yB 3 (some .boolean) site
def P (x t : Addr) (V : Cell) (cd : Int32) (n : Nat) (f : Nat → Int32) (y t' : Addr) (V' : Cell) (cd' : Int32) (k : Nat) (g : Nat → Int32) (z : Int32) (args : Array Value) (s : State) : Prop := args = #[.ref x, .ref y] ∧ Txt x t V cd n f s ∧ Txt y t' V' cd' k g s ∧ StaticIs s "java/lang/String" "COMPACT_STRINGS" "Z" (.int z) ∧ ¬ z = 0
/-- equals(Object) of two Strings: whether the texts are the same -/
theorem law (l : Launch) (x t : Addr) (V : Cell) (cd : Int32) (n : Nat) (f : Nat → Int32) (y t' : Addr) (V' : Cell) (cd' : Int32) (k : Nat) (g : Nat → Int32) (z : Int32) : Law l yN 2 1 1 14 yB 3 (some .boolean) site (P x t V cd n f y t' V' cd' k g z) (Says01 (SameT n f k g)) [] 0 0 := by
  refine Law.of_walk (plainFor_of_name (by decide +kernel)) (by decide +kernel) (by decide +kernel) (by decide) (fun _ _ h => by rw [h.1]; rfl) (fun _ U U' hal hh h => ⟨h.1, h.2.1.mv hal hh, h.2.2.1.mv hal hh, h.2.2.2.1.there hal hh, h.2.2.2.2⟩) (fun r U U' V V' h1 hal h2 h => Says01.mv r U U' V V' h1 hal h2 h) ?_
  intro p e s m args below meth c s₁ X0 hexec hbytes hml hret hlk hnm hown hh0 W hP
  obtain ⟨rfl, hx, hy, s1, hz⟩ := hP
  have c1 : Steps p.tables e below (s₁.setTop (entryFrame m #[.ref x, .ref y] 3)) (s₁.setTop (mkF m 2 #[.val (.ref x), .val (.ref y), .unset] [.ref y, .ref x])) := Steps.trans (entry rfl) (by
    show Steps p.tables e below (s₁.setTop (mkF m 0 #[.val (.ref x), .val (.ref y), .unset] [])) _
    refine XS.aloadN X0.here hexec rfl (hb hbytes d0) rfl rfl ?_
    refine XS.aloadN X0.here hexec rfl (hb hbytes d1) rfl rfl ?_
    exact Steps.refl _)
  by_cases hxy : x = y
  · have c2 : Steps p.tables e below (s₁.setTop (entryFrame m #[.ref x, .ref y] 3)) (s₁.setTop (mkF m 6 #[.val (.ref x), .val (.ref y), .unset] [.int 1])) := c1.trans (by
      refine acmpNo X0.here hexec rfl (hb hbytes d2) rfl rfl rfl (by simp [acmp, hxy]) ?_
      refine iconstV X0.here hexec rfl 1 (hb hbytes d5) (by decide) ?_
      exact Steps.refl _)
    subst hxy
    have ec : cd = cd' := by
      obtain ⟨D, fd, a1, a2, a3⟩ := hx.2.2.1
      obtain ⟨D', fd', b1, b2, b3⟩ := hy.2.2.1
      cases a1.symm.trans b1
      obtain ⟨q1, q2, q3, q4⟩ := a2.1
      obtain ⟨r1, r2, r3, r4⟩ := b2.1
      cases q4.symm.trans r4
      cases a3.symm.trans b3; rfl
    have et : t = t' := by
      obtain ⟨D, fd, a1, a2, a3⟩ := hx.2.1
      obtain ⟨D', fd', b1, b2, b3⟩ := hy.2.1
      cases a1.symm.trans b1
      obtain ⟨q1, q2, q3, q4⟩ := a2.1
      obtain ⟨r1, r2, r3, r4⟩ := b2.1
      cases q4.symm.trans r4
      cases a3.symm.trans b3; rfl
    subst ec et
    have ev : V = V' := by cases hx.2.2.2.1.1.symm.trans hy.2.2.2.1.1; rfl
    subst ev
    have hs : SameT n f k g := (Cod.eqv hx.2.2.2.2.1 hy.2.2.2.2.1 hx.2.2.2.2.2 hy.2.2.2.2.2).mp ⟨rfl, fun _ _ => rfl⟩
    exact ⟨s₁, some (.int 1), _, _, _, X0, rfl, rfl, rfl, (fun h => by cases h), ⟨1, rfl, hh0, Or.inl ⟨rfl, hs⟩⟩, fun fs hl => c2.trans (X0.ireturnOut hexec hret rfl (Or.inr (Or.inl rfl)) (hb hbytes d6) hl)⟩
  · have c2 : Steps p.tables e below (s₁.setTop (entryFrame m #[.ref x, .ref y] 3)) (s₁.setTop (mkF m 8 #[.val (.ref x), .val (.ref y), .unset] [.ref y])) := c1.trans (by
      refine acmpYes X0.here hexec rfl (pc0 := 2) rfl (hb hbytes d2) rfl rfl rfl (by simp [acmp, hxy]) (by decide) rfl ?_
      refine XS.aloadN X0.here hexec rfl (hb hbytes d7) rfl rfl ?_
      exact Steps.refl _)
    obtain ⟨T3, X3, q3, st3⟩ := cinst X0 hexec hown (wk W (.classLink "java/lang/String" 10 "java/lang/String")) (hy.mv X0.warmed.alike hh0).1 (g := (mkF m 8 #[.val (.ref x), .val (.ref y), .unset] [.ref y])) rfl (rest := []) rfl (hb hbytes d8)
    have hh3 := q3.trans hh0
    have c4 : Steps p.tables e below (s₁.setTop (entryFrame m #[.ref x, .ref y] 3)) (T3.setTop (mkF m 15 #[.val (.ref x), .val (.ref y), .unset] [.ref y])) := (c2.trans (st3 _ (Steps.refl _))).trans (by
      refine XS.ifNo X3.here hexec rfl (hb hbytes d11) rfl (i0_eq_f (by decide)) ?_
      refine XS.aloadN X3.here hexec rfl (hb hbytes d14) rfl rfl ?_
      exact Steps.refl _)
    obtain ⟨T5, X5, q5, st5⟩ := cself X3 hexec hown (wk W (.classLink "java/lang/String" 10 "java/lang/String")) (hy.mv X3.warmed.alike hh3).1 (g := (mkF m 15 #[.val (.ref x), .val (.ref y), .unset] [.ref y])) rfl (rest := []) rfl (hb hbytes d15)
    have hh5 := q5.trans hh3
    have c6 : Steps p.tables e below (s₁.setTop (entryFrame m #[.ref x, .ref y] 3)) (T5.setTop (mkF m 19 #[.val (.ref x), .val (.ref y), .val (.ref y)] [])) := (c4.trans (st5 _ (Steps.refl _))).trans (by
      refine XS.astoreN X5.here hexec rfl (hb hbytes d18) rfl rfl rfl ?_
      exact Steps.refl _)
    obtain ⟨T7, X7, q7, st7⟩ := X5.sget hexec hown (wk W (.fieldLink "java/lang/String" 38 "java/lang/String" "COMPACT_STRINGS" "Z")) s1 (fun _ _ h => by rw [hh5]; exact h) (g := (mkF m 19 #[.val (.ref x), .val (.ref y), .val (.ref y)] [])) rfl (hb hbytes d19)
    have hh7 := q7.trans hh5
    have c8 : Steps p.tables e below (s₁.setTop (entryFrame m #[.ref x, .ref y] 3)) (T7.setTop (mkF m 26 #[.val (.ref x), .val (.ref y), .val (.ref y)] [.ref x])) := (c6.trans (st7 _ (Steps.refl _))).trans (by
      refine XS.ifNo X7.here hexec rfl (hb hbytes d22) rfl (i0_eq_f hz) ?_
      refine XS.aloadN X7.here hexec rfl (hb hbytes d25) rfl rfl ?_
      exact Steps.refl _)
    obtain ⟨T9, X9, q9, st9⟩ := X7.hget hexec hown (wk W (.fieldLink "java/lang/String" 15 "java/lang/String" "coder" "B")) (hx.mv X7.warmed.alike hh7).2.2.1 (g := (mkF m 26 #[.val (.ref x), .val (.ref y), .val (.ref y)] [.ref x])) rfl (rest := []) rfl (hb hbytes d26)
    have hh9 := q9.trans hh7
    have c10 : Steps p.tables e below (s₁.setTop (entryFrame m #[.ref x, .ref y] 3)) (T9.setTop (mkF m 30 #[.val (.ref x), .val (.ref y), .val (.ref y)] [.ref y, .int cd])) := (c8.trans (st9 _ (Steps.refl _))).trans (by
      refine XS.aloadN X9.here hexec rfl (hb hbytes d29) rfl rfl ?_
      exact Steps.refl _)
    obtain ⟨T11, X11, q11, st11⟩ := X9.hget hexec hown (wk W (.fieldLink "java/lang/String" 15 "java/lang/String" "coder" "B")) (hy.mv X9.warmed.alike hh9).2.2.1 (g := (mkF m 30 #[.val (.ref x), .val (.ref y), .val (.ref y)] [.ref y, .int cd])) rfl (rest := [.int cd]) rfl (hb hbytes d30)
    have hh11 := q11.trans hh9
    have c12 : Steps p.tables e below (s₁.setTop (entryFrame m #[.ref x, .ref y] 3)) (T11.setTop (mkF m 33 #[.val (.ref x), .val (.ref y), .val (.ref y)] [.int cd', .int cd])) := c10.trans (st11 _ (Steps.refl _))
    by_cases hcd : cd = cd'
    · subst hcd
      have c13 : Steps p.tables e below (s₁.setTop (entryFrame m #[.ref x, .ref y] 3)) (T11.setTop (mkF m 37 #[.val (.ref x), .val (.ref y), .val (.ref y)] [.ref x])) := c12.trans (by
        refine XS.icmpNo X11.here hexec rfl (hb hbytes d33) rfl (ii_ne_f rfl) ?_
        refine XS.aloadN X11.here hexec rfl (hb hbytes d36) rfl rfl ?_
        exact Steps.refl _)
      obtain ⟨T14, X14, q14, st14⟩ := X11.hget hexec hown (wk W (.fieldLink "java/lang/String" 9 "java/lang/String" "value" "[B")) (hx.mv X11.warmed.alike hh11).2.1 (g := (mkF m 37 #[.val (.ref x), .val (.ref y), .val (.ref y)] [.ref x])) rfl (rest := []) rfl (hb hbytes d37)
      have hh14 := q14.trans hh11
      have c15 : Steps p.tables e below (s₁.setTop (entryFrame m #[.ref x, .ref y] 3)) (T14.setTop (mkF m 41 #[.val (.ref x), .val (.ref y), .val (.ref y)] [.ref y, .ref t])) := (c13.trans (st14 _ (Steps.refl _))).trans (by
        refine XS.aloadN X14.here hexec rfl (hb hbytes d40) rfl rfl ?_
        exact Steps.refl _)
      obtain ⟨T16, X16, q16, st16⟩ := X14.hget hexec hown (wk W (.fieldLink "java/lang/String" 9 "java/lang/String" "value" "[B")) (hy.mv X14.warmed.alike hh14).2.1 (g := (mkF m 41 #[.val (.ref x), .val (.ref y), .val (.ref y)] [.ref y, .ref t])) rfl (rest := [.ref t]) rfl (hb hbytes d41)
      have hh16 := q16.trans hh14
      have c17 : Steps p.tables e below (s₁.setTop (entryFrame m #[.ref x, .ref y] 3)) (T16.setTop (mkF m 44 #[.val (.ref x), .val (.ref y), .val (.ref y)] [.ref t', .ref t])) := c15.trans (st16 _ (Steps.refl _))
      obtain ⟨v18, T18, X18, E18, g18⟩ := X16.callS hexec (LEq.law l t V t' V') hown (wks W (staticW "java/lang/String" 541 LEq.yN)) (wk W LEq.tab) (W := 0) (Nat.le_of_ble_eq_true rfl) (Nat.le_of_ble_eq_true rfl) (Nat.le_refl _) (Nat.le_refl _) (g := (mkF m 44 #[.val (.ref x), .val (.ref y), .val (.ref y)] [.ref t', .ref t])) rfl (by rw [hml]; rfl) c17 (argsL := [.ref t, .ref t']) (rest := []) rfl rfl (by show 2 * 0 + 0 ≤ _; decide) (hb hbytes d44) (⟨rfl, hx.2.2.2.1.mv X16.warmed.alike hh16, hx.2.2.2.2.1.ty, hy.2.2.2.1.mv X16.warmed.alike hh16, hy.2.2.2.2.1.ty⟩)
      obtain ⟨v, rfl, q18, hv⟩ := E18
      have iff := Cod.eqv hx.2.2.2.2.1 hy.2.2.2.2.1 hx.2.2.2.2.2 hy.2.2.2.2.2
      rcases hv with ⟨rfl, he⟩ | ⟨rfl, he⟩
      · have c19 : Steps p.tables e below (s₁.setTop (entryFrame m #[.ref x, .ref y] 3)) (T18.setTop (mkF m 55 #[.val (.ref x), .val (.ref y), .val (.ref y)] [.int 1])) := Steps.trans g18 (by
          refine XS.ifNo X18.here hexec rfl (hb hbytes d47) rfl (i0_eq_f (by decide)) ?_
          refine iconstV X18.here hexec rfl 1 (hb hbytes d50) (by decide) ?_
          refine XS.goto X18.here hexec rfl (pc0 := 51) rfl (hb hbytes d51) (by decide) rfl ?_
          exact Steps.refl _)
        exact ⟨T18, some (.int 1), _, _, _, X18, rfl, rfl, rfl, (fun h => by cases h), ⟨1, rfl, q18.trans hh16, Or.inl ⟨rfl, iff.mp he⟩⟩, fun fs hl => c19.trans (X18.ireturnOut hexec hret rfl (Or.inr (Or.inl rfl)) (hb hbytes d55) hl)⟩
      · have c19 : Steps p.tables e below (s₁.setTop (entryFrame m #[.ref x, .ref y] 3)) (T18.setTop (mkF m 55 #[.val (.ref x), .val (.ref y), .val (.ref y)] [.int 0])) := Steps.trans g18 (by
          refine XS.ifYes X18.here hexec rfl (pc0 := 47) rfl (hb hbytes d47) rfl (i0_eq_t rfl) (by decide) rfl ?_
          refine iconstV X18.here hexec rfl 0 (hb hbytes d54) (by decide) ?_
          exact Steps.refl _)
        exact ⟨T18, some (.int 0), _, _, _, X18, rfl, rfl, rfl, (fun h => by cases h), ⟨0, rfl, q18.trans hh16, Or.inr ⟨rfl, fun q => he (iff.mpr q)⟩⟩, fun fs hl => c19.trans (X18.ireturnOut hexec hret rfl (Or.inr (Or.inl rfl)) (hb hbytes d55) hl)⟩
    · have c13 : Steps p.tables e below (s₁.setTop (entryFrame m #[.ref x, .ref y] 3)) (T11.setTop (mkF m 55 #[.val (.ref x), .val (.ref y), .val (.ref y)] [.int 0])) := c12.trans (by
        refine XS.icmpYes X11.here hexec rfl (pc0 := 33) rfl (hb hbytes d33) rfl (ii_ne_t hcd) (by decide) rfl ?_
        refine iconstV X11.here hexec rfl 0 (hb hbytes d54) (by decide) ?_
        exact Steps.refl _)
      exact ⟨T11, some (.int 0), _, _, _, X11, rfl, rfl, rfl, (fun h => by cases h), ⟨0, rfl, hh11, Or.inr ⟨rfl, Cod.dif hx.2.2.2.2.1 hy.2.2.2.2.1 hcd⟩⟩, fun fs hl => c13.trans (X11.ireturnOut hexec hret rfl (Or.inr (Or.inl rfl)) (hb hbytes d55) hl)⟩
theorem pays {l : Launch} {R : Room} {p : Program} {e : Env} {below : List Frame} {s : State} {sargs : Array Value} {len W : Nat} (x t : Addr) (V : Cell) (cd : Int32) (n : Nat) (f : Nat → Int32) (y t' : Addr) (V' : Cell) (cd' : Int32) (k : Nat) (g : Nat → Int32) (z : Int32) (htab : tab.before sargs s = true) (hfr : 2 ≤ R.frames) (hlo : W + 28 ≤ R.locals) :
    Back l R p e below s sargs yN len W (fun A₁ a₁ => A₁.cells + 0 ≤ R.cells ∧ A₁.slots + 0 ≤ R.slots ∧ P x t V cd n f y t' V' cd' k g z a₁ A₁.U) (fun A₁ _ v₁ B₁ => Says01 (SameT n f k g) v₁ A₁.U B₁.U ∧ B₁.locs = A₁.locs ++ [] ∧ B₁.cells = A₁.cells + 0 ∧ B₁.slots = A₁.slots + 0) :=
  (law l x t V cd n f y t' V' cd' k g z).pays htab hfr (by omega)
end SEq
end StrChars
namespace StrChars.Road
open Jvm Sem ClassFile Op Lib Jvm.Stand Jvm.Free Jvm.Free.XT
open Jvm.Lib.Cold (StaticIs)
/-- the words of String.equals(Object) -/
abbrev wordsEq : List Jvm.Cond := [.code SEq.yN SEq.yB 3 (some .boolean), .initialized ST, .classLink ST 10 ST, .fieldLink ST 38 ST "COMPACT_STRINGS" "Z", .fieldLink ST 15 ST "coder" "B", .fieldLink ST 9 ST "value" "[B", .methodLink ST 541 LEq.yN, .static LEq.yN, .code LEq.yN LEq.yB 3 (some .boolean), .initialized "java/lang/StringLatin1"]
theorem tabEq_of {a : Array Value} {s : State} (h : ∀ w ∈ wordsEq, w.before a s = true) : SEq.tab.before a s = true := by
  have hl : LEq.tab.before a s = true := unparts (wk h (.code LEq.yN LEq.yB 3 (some .boolean))) (wks h (.initialized LEq.yN.cls :: LEq.site))
  have q := consq hl h
  exact unparts (wk q (.code SEq.yN SEq.yB 3 (some .boolean))) (wks q (.initialized SEq.yN.cls :: SEq.site))
theorem movedEq {Z s : State} {a0 args : Array Value} (hZ : Z.Warmed39 s.vm) (hw : ∀ d ∈ wordsEq, d.before a0 Z = true) : ∀ d ∈ wordsEq, d.before args s = true := fun d hd => by
  have t : ∀ d ∈ wordsEq, (d.onTables && d.keepsFace) = true := by decide +kernel
  exact RoadKit.mv hZ (hw d hd) (t d hd)
/-- the road's facts of a String, as the laws ask it -/
theorem txt_of {Z U : State} {a0 : Array Value} {kI : Nat} (wi : (Jvm.Cond.instantiable ST kI).before a0 Z = true) (al : Z.vm.Alike U.vm) {x t : Addr} {kb : ClassId} {cs : List Int32} {cd N2 : Int32} {vs : List Value} (E : RoadKit.Exa Z U.heap x ST) (V : RoadKit.Fld Z U.heap x ST "value" "[B" (.ref t)) (C : RoadKit.Fld Z U.heap x ST "coder" "B" (.int cd)) (K : RoadKit.Arv Z U.heap t kb .byte N2 vs (.int 0)) (hc : CodA cs cd N2 vs) (hb : ∀ c ∈ cs, ¬ c < 0 ∧ ¬ (65535 : Int32) < c) (l2 : cs.length ≤ 4000) :
    ∃ A, Txt x t A cd cs.length (fun j => cs.getD j 0) U := by
  obtain ⟨A, K1, K2, K3, K4, K5, K6⟩ := K
  have hcod := hc.cod (by omega) K3 K5
  obtain ⟨D, fV, fC, hB, F1, F2, g1, g2, -, -⟩ := strObj wi al E V C
  exact ⟨A, ⟨_, hB.2.2.1, D, hB.1, rfl, by cases q : D.vm <;> first | rfl | exact absurd q (hB.2.1.2 _)⟩, Has.of hB F1 g1, Has.of hB F2 g2, ⟨K1.1, State.isArrayOf_alike al K1.2.1, K1.2.2, by rcases hcod with ⟨-, q, -⟩ | ⟨-, q, -⟩ <;> omega⟩, hcod, fun j hj => by
    have e : cs.getD j 0 = cs[j] := by simp [List.getD_eq_getElem?_getD, hj]
    show ¬ cs.getD j 0 < 0 ∧ ¬ 65535 < cs.getD j 0
    rw [e]; exact hb _ (List.getElem_mem _)⟩
theorem same_list (cs ds : List Int32) : SameT cs.length (fun j => cs.getD j 0) ds.length (fun j => ds.getD j 0) ↔ cs = ds := by
  constructor
  · rintro ⟨e, q⟩
    refine List.ext_getElem e fun j h1 h2 => ?_
    have := q j h1
    simpa [List.getD_eq_getElem?_getD, h1, h2] using this
  · rintro rfl
    exact ⟨rfl, fun _ _ => rfl⟩
/-- **equals(Object) OF TWO SUCH STRINGS**: 1 just where the chars are the same -/
theorem eqW {p : Program} {l : Launch} {e : Env} {R : Room} {s : State} {args : Array Value} {below : List Frame} {len W : Nat} {Z : State} {a0 : Array Value} {h : Heap} (hZ : Z.Warmed39 s.vm) (hw : ∀ d ∈ wordsEq, d.before a0 Z = true) {kI : Nat} (wi : (Jvm.Cond.instantiable ST kI).before a0 Z = true)
    {x t : Addr} {kb : ClassId} {cs : List Int32} {cd N2 : Int32} {vs : List Value} (E : RoadKit.Exa Z h x ST) (V : RoadKit.Fld Z h x ST "value" "[B" (.ref t)) (C : RoadKit.Fld Z h x ST "coder" "B" (.int cd)) (K : RoadKit.Arv Z h t kb .byte N2 vs (.int 0)) (hc : CodA cs cd N2 vs) (hb : ∀ c ∈ cs, ¬ c < 0 ∧ ¬ (65535 : Int32) < c) (l2 : cs.length ≤ 4000)
    {y t' : Addr} {kb' : ClassId} {ds : List Int32} {cd' N2' : Int32} {vs' : List Value} (E' : RoadKit.Exa Z h y ST) (V' : RoadKit.Fld Z h y ST "value" "[B" (.ref t')) (C' : RoadKit.Fld Z h y ST "coder" "B" (.int cd')) (K' : RoadKit.Arv Z h t' kb' .byte N2' vs' (.int 0)) (hc' : CodA ds cd' N2' vs') (hb' : ∀ c ∈ ds, ¬ c < 0 ∧ ¬ (65535 : Int32) < c) (l2' : ds.length ≤ 4000)
    {z : Int32} (S : RoadKit.Sta Z h ST "COMPACT_STRINGS" "Z" (.int z)) (hz : ¬ z = 0) (hfr : 2 ≤ R.frames) (hlo : W + 28 ≤ R.locals) :
    Back l R p e below s args (⟨"java/lang/String", "equals", "(Ljava/lang/Object;)Z"⟩ : MethodName) len W (fun P a => a = #[.ref x, .ref y] ∧ P.U.heap = h ∧ P.cells + 0 ≤ R.cells ∧ P.slots + 0 ≤ R.slots)
      (fun P _ v B => ∃ L, (((v = some (.int 1) ∧ cs = ds) ∨ (v = some (.int 0) ∧ ¬ cs = ds)) ∧ L = [] ∧ B.U.heap = h) ∧ B.locs = P.locs ++ L ∧ B.cells = P.cells + 0 ∧ B.slots = P.slots + 0) := by
  intro m meth c P g ig mk a X hg hsize hdg hW hn hp'
  obtain ⟨rfl, rfl, r1, r2⟩ := hp'
  have al : Z.vm.Alike P.U.vm := hZ.alike.trans X.warmed.alike
  obtain ⟨A, hx⟩ := txt_of wi al E V C K hc hb l2
  obtain ⟨A', hy⟩ := txt_of wi al E' V' C' K' hc' hb' l2'
  obtain ⟨v, B, X', ⟨⟨w, hv, hh, hq⟩, hl, hk, hs⟩, st⟩ := SEq.pays x t A cd cs.length (fun j => cs.getD j 0) y t' A' cd' ds.length (fun j => ds.getD j 0) z (tabEq_of (movedEq hZ hw)) hfr hlo m meth c P g ig mk _ X hg hsize hdg hW hn ⟨r1, r2, rfl, hx, hy, sta_is al S, hz⟩
  refine ⟨v, B, X', ⟨[], ⟨?_, rfl, hh⟩, hl, hk, hs⟩, st⟩
  rcases hq with ⟨rfl, q⟩ | ⟨rfl, q⟩
  · exact Or.inl ⟨hv, (same_list cs ds).mp q⟩
  · exact Or.inr ⟨hv, fun e => q ((same_list cs ds).mpr e)⟩
end StrChars.Road
namespace StrChars.Road
open Jvm Sem ClassFile Op Lib Jvm.Stand Jvm.Free Jvm.Free.XT
open Jvm.Lib.Cold (StaticIs)
/-- what backV says of its String, as the contracts of this text ask it: cs's low bytes, coder 0 -/
theorem codOf {cs : List Int32} {n : Nat} (hn : cs.length = n) (hb : ∀ c ∈ cs, ¬ 255 < c) : CodA cs 0 (Int32.ofNat n) ((cs.map lo8).map Value.int) := Or.inl ⟨rfl, by rw [hn], by simp [List.map_map, Function.comp_def], hb⟩
end StrChars.Road
end Jvm.Pilot.@@N@@

namespace Jvm.Pilot.@@N@@
open Jvm Jvm.ClassFile Sem Op Lib Jvm.Free Jvm.Stand Jvm.LawKit Jvm.RoadKit Bundle Jvm.Pilot.@@N@@.Jvm.D
/-! A walk by continuations: own_Go says that from here the body runs to an end that P allows. -/
def own_Go (p : Program) (e : Env) (below : List Frame) (P : Outcome → State → Prop) (T : State) (g : JFrame) : Prop :=
  ∃ s₂ o, Steps p.tables e below (T.setTop g) s₂ ∧ s₂.status = .running ∧ Ended s₂ below o ∧ P o s₂
abbrev own_End (s : State) (Q : Option Value → Heap → List Loc → Prop) (C S : Nat) : Outcome → State → Prop := fun o s₂ => ∃ v L, o = .returned v ∧ Q v s₂.heap L ∧ FrameEnd s o s₂ L C S
theorem own_pc {m : MethodId} {pc : Nat} {Ls : Array Slot} {st : List Value} {off : Int} (h : 0 ≤ (pc : Int) + off) : 0 ≤ ((mkF m pc Ls st).pc : Int) + off := h
section Own
variable {p : Program} {l : Launch} {e : Env} {R : Room} {s : State} {m : MethodId} {args : Array Value} {below : List Frame} {meth : Method} {c : Code} {T T' : State} {locs : List Loc} {cells slots : Nat} {P : Outcome → State → Prop} {g g' : JFrame} {Q : Option Value → Heap → List Loc → Prop} {C S : Nat}
theorem own_st (h : ∀ t, Steps p.tables e below (T'.setTop g') t → Steps p.tables e below (T.setTop g) t) (k : own_Go p e below P T' g') : own_Go p e below P T g := by
  obtain ⟨s₂, o, h1, r⟩ := k
  exact ⟨s₂, o, h _ h1, r⟩
theorem own_entry (q : g = g') (k : own_Go p e below P T g') : ∃ s₂ o, Steps p.tables e below (T.setTop g) s₂ ∧ s₂.status = .running ∧ Ended s₂ below o ∧ P o s₂ := by
  subst q
  exact k
theorem own_join {α : Type} {F : α → Prop} {g' : α → JFrame} {T' : State} (k : ∀ b, F b → own_Go p e below P T' (g' b)) (j : (∀ b, F b → own_Go p e below P T' (g' b)) → own_Go p e below P T g) : own_Go p e below P T g := j k
theorem own_joinT {S0 : State} {h : Heap} {α : Type} {F : α → Prop} {g' : α → JFrame} (X : Stand p l e R S0 m args below meth c T locs cells slots) (eT : T.heap = h)
    (k : ∀ b T', F b → Stand p l e R S0 m args below meth c T' locs cells slots → T'.heap = h → own_Go p e below P T' (g' b)) (j : (∀ b T', F b → Stand p l e R S0 m args below meth c T' locs cells slots → T'.heap = h → own_Go p e below P T' (g' b)) → own_Go p e below P T g) : own_Go p e below P T g := j k
theorem own_leave (X : Stand p l e R s m args below meth c T locs cells slots) (hlk : meth.locks = false) {v : Option Value} (hv : meth.sig.returnType = none → v = none)
    (k : ∀ fs, (∀ (f : JFrame) (acts : List Action), f.method = m → f.locked = none → f.entered = [] → (doReturn e (T.setTop f) acts v).1 = T.setFrames fs) → Steps p.tables e below (T.setTop g) (T.setFrames fs))
    (hQ : Q v T.heap locs) (hC : cells ≤ C) (hS : slots ≤ S) : own_Go p e below (own_End s Q C S) T g := by
  obtain ⟨fs, hr, hrun, hended, hW, hsame⟩ := X.leave hv hlk
  exact ⟨_, _, k fs hr, hrun, hended, _, _, rfl, hQ, ⟨_, rfl⟩, hW, hsame.mono hC hS⟩
theorem own_retN (X : Stand p l e R s m args below meth c T locs cells slots) (hx : p.tables.exec = Jvm.exec) (hlk : meth.locks = false) {pc : Nat} {Ls : Array Slot} {z : Int32} {t : FieldType} {rest : List Value} (hret : meth.sig.returnType = some t) (ht : t = .boolean ∨ t = .byte ∨ t = .char ∨ t = .short)
    (hd : decode c.code pc = .ok (.ireturn, 1)) (hQ : Q (some (.int (nar t z))) T.heap locs) (hC : cells ≤ C) (hS : slots ≤ S) : own_Go p e below (own_End s Q C S) T (mkF m pc Ls (.int z :: rest)) :=
  own_leave X hlk (fun h => by rw [hret] at h; cases h) (fun fs hr => retN X hx hret ht hd hr) hQ hC hS
theorem own_retI (X : Stand p l e R s m args below meth c T locs cells slots) (hx : p.tables.exec = Jvm.exec) (hlk : meth.locks = false) {pc : Nat} {Ls : Array Slot} {z : Int32} {rest : List Value} (hret : meth.sig.returnType = some .int)
    (hd : decode c.code pc = .ok (.ireturn, 1)) (hQ : Q (some (.int z)) T.heap locs) (hC : cells ≤ C) (hS : slots ≤ S) : own_Go p e below (own_End s Q C S) T (mkF m pc Ls (.int z :: rest)) :=
  own_leave X hlk (fun h => by rw [hret] at h; cases h) (fun fs hr => retOut X hx hret rfl (Or.inl ⟨rfl, Or.inl rfl, z, rfl⟩) hd hr) hQ hC hS
theorem own_retJ (X : Stand p l e R s m args below meth c T locs cells slots) (hx : p.tables.exec = Jvm.exec) (hlk : meth.locks = false) {pc : Nat} {Ls : Array Slot} {z : Int64} {rest : List Value} (hret : meth.sig.returnType = some .long)
    (hd : decode c.code pc = .ok (.lreturn, 1)) (hQ : Q (some (.long z)) T.heap locs) (hC : cells ≤ C) (hS : slots ≤ S) : own_Go p e below (own_End s Q C S) T (mkF m pc Ls (.long z :: rest)) :=
  own_leave X hlk (fun h => by rw [hret] at h; cases h) (fun fs hr => retOut X hx hret rfl (Or.inr (Or.inl ⟨rfl, rfl, z, rfl⟩)) hd hr) hQ hC hS
theorem own_narrow_ref {t : FieldType} {w : Value} (ht : t.isReference = true) : narrow t w = w := by cases t <;> first | rfl | cases ht
theorem own_retA (X : Stand p l e R s m args below meth c T locs cells slots) (hx : p.tables.exec = Jvm.exec) (hlk : meth.locks = false) {pc : Nat} {Ls : Array Slot} {w : Value} {t : FieldType} {rest : List Value} (hret : meth.sig.returnType = some t) (ht : t.isReference = true) (hw : w.isRef = true)
    (hd : decode c.code pc = .ok (.areturn, 1)) (hQ : Q (some w) T.heap locs) (hC : cells ≤ C) (hS : slots ≤ S) : own_Go p e below (own_End s Q C S) T (mkF m pc Ls (w :: rest)) :=
  own_leave X hlk (fun h => by rw [hret] at h; cases h) (fun fs hr => retOut X hx hret (own_narrow_ref ht) (Or.inr (Or.inr (Or.inr (Or.inr ⟨rfl, ht, hw⟩)))) hd hr) hQ hC hS
theorem own_ret0 (X : Stand p l e R s m args below meth c T locs cells slots) (hx : p.tables.exec = Jvm.exec) (hlk : meth.locks = false) {pc : Nat} {Ls : Array Slot} (hret : meth.sig.returnType = none)
    (hd : decode c.code pc = .ok (.return_, 1)) (hQ : Q none T.heap locs) (hC : cells ≤ C) (hS : slots ≤ S) : own_Go p e below (own_End s Q C S) T (mkF m pc Ls []) :=
  own_leave X hlk (fun _ => rfl) (fun fs hr => X.returnOut hx hret hd hr) hQ hC hS
theorem own_callS (X : Stand p l e R s m args below meth c T locs cells slots) (hx : p.tables.exec = Jvm.exec) {own : String} {index : Nat} {y : MethodName} {bytes : ByteArray} {maxL : Nat} {ret : Option FieldType}
    (hown : s.vm.findClass own = some m.cls) (hlink : (Cond.methodLink own index y).before args s = true) (hstat : (Cond.static y).before args s = true) (hinit : (Cond.initialized y.cls).before args s = true)
    (hcode : (Cond.code y bytes maxL ret).before args s = true) (hy : y.cls ≠ "java/lang/invoke/MethodHandle" ∧ y.cls ≠ "java/lang/invoke/VarHandle")
    {W rc rs : Nat} {as' : Array Value} {h : Heap} {Qc : Option Value → Heap → List Loc → Prop}
    (hK : Back l R p e below s args y 3 W (fun A a => a = as' ∧ A.U.heap = h ∧ A.cells + rc ≤ R.cells ∧ A.slots + rs ≤ R.slots) (fun A _ v B => ∃ L, Qc v B.U.heap L ∧ B.locs = A.locs ++ L ∧ B.cells = A.cells + rc ∧ B.slots = A.slots + rs))
    (hg : g.method = m) (hsize : g.locals.size = c.maxLocals) {argsL rest : List Value} (hlen : ∀ sig, parseMethodDescriptor y.desc = some sig → argsL.length = sig.parameters.length)
    (hstack : g.stack = argsL.reverse ++ rest) (hW : 2 * g.monitorRoom + (rest.map fun v => v.category).sum ≤ W) (hdg : decode c.code g.pc = .ok (.invokestatic index, 3))
    (ha : argsL.toArray = as') (eT : T.heap = h) (hc : cells + rc ≤ R.cells) (hs : slots + rs ≤ R.slots)
    (k : ∀ v T' L, Stand p l e R s m args below meth c T' (locs ++ L) (cells + rc) (slots + rs) → Qc v T'.heap L → own_Go p e below P T' { g with pc := g.pc + 3, stack := v.toList ++ rest }) : own_Go p e below P T g := by
  obtain ⟨v, vm₁, ⟨T', L', k', n'⟩, -, X', ⟨L, hQ, l1, y1, z1⟩, st⟩ := Jvm.LawKit.callS X hx hown hlink hstat hinit hcode hy hK hg hsize hlen hstack hW hdg (fun _ _ => ⟨ha, eT, hc, hs⟩)
  dsimp only [Pt.U, Pt.locs, Pt.cells, Pt.slots] at X' l1 y1 z1 st hQ
  subst l1 y1 z1
  exact own_st st (k v T' L X' hQ)
theorem own_callN (X : Stand p l e R s m args below meth c T locs cells slots) (hx : p.tables.exec = Jvm.exec) {own : String} {index : Nat} {y : MethodName} {bytes : ByteArray} {maxL : Nat} (hy1 : y.name = "<init>")
    (hown : s.vm.findClass own = some m.cls) (hlink : (Cond.methodLink own index y).before args s = true) (hinst : (Cond.instanceMethod y).before args s = true)
    (hcode : (Cond.code y bytes maxL none).before args s = true) (hy : y.cls ≠ "java/lang/invoke/MethodHandle" ∧ y.cls ≠ "java/lang/invoke/VarHandle")
    {W rc rs : Nat} {as' : Array Value} {h : Heap} {Qc : Option Value → Heap → List Loc → Prop}
    (hK : Back l R p e below s args y 3 W (fun A a => a = as' ∧ A.U.heap = h ∧ A.cells + rc ≤ R.cells ∧ A.slots + rs ≤ R.slots) (fun A _ v B => ∃ L, Qc v B.U.heap L ∧ B.locs = A.locs ++ L ∧ B.cells = A.cells + rc ∧ B.slots = A.slots + rs))
    {a : Addr} (hg : g.method = m) (hsize : g.locals.size = c.maxLocals) {argsL rest : List Value} (hlen : ∀ sig, parseMethodDescriptor y.desc = some sig → argsL.length = sig.parameters.length)
    (hstack : g.stack = argsL.reverse ++ .ref a :: rest) (hW : 2 * g.monitorRoom + (rest.map fun v => v.category).sum ≤ W) (hdg : decode c.code g.pc = .ok (.invokespecial index, 3))
    (ha : (Value.ref a :: argsL).toArray = as') (eT : T.heap = h) (hc : cells + rc ≤ R.cells) (hs : slots + rs ≤ R.slots)
    (k : ∀ v T' L, Stand p l e R s m args below meth c T' (locs ++ L) (cells + rc) (slots + rs) → Qc v T'.heap L → own_Go p e below P T' { g with pc := g.pc + 3, stack := v.toList ++ rest }) : own_Go p e below P T g := by
  obtain ⟨v, vm₁, ⟨T', L', k', n'⟩, -, X', ⟨L, hQ, l1, y1, z1⟩, st⟩ := X.specialBack hx hy1 hown hlink hinst hcode hy hK hg hsize (Steps.refl _) hlen hstack hW hdg (fun _ _ => ⟨ha, eT, hc, hs⟩)
  dsimp only [Pt.U, Pt.locs, Pt.cells, Pt.slots] at X' l1 y1 z1 st hQ
  subst l1 y1 z1
  exact own_st (fun t k => st.trans k) (k v T' L X' hQ)
theorem own_callV (X : Stand p l e R s m args below meth c T locs cells slots) (hx : p.tables.exec = Jvm.exec) {own Cn : String} {index : Nat} {y z : MethodName}
    (hown : s.vm.findClass own = some m.cls) (hlink : (Cond.methodLink own index y).before args s = true) (hdecl : (Cond.declares y).before args s = true) (hnf : NotFace s y)
    (hsel : (Cond.selects Cn y z).before args s = true) (hinst : (Cond.instanceMethod z).before args s = true)
    (hy : y.cls ≠ "java/lang/invoke/MethodHandle" ∧ y.cls ≠ "java/lang/invoke/VarHandle")
    {W rc rs : Nat} {as' : Array Value} {h : Heap} {Qc : Option Value → Heap → List Loc → Prop}
    (hK : Back l R p e below s args z 3 W (fun A a => a = as' ∧ A.U.heap = h ∧ A.cells + rc ≤ R.cells ∧ A.slots + rs ≤ R.slots) (fun A _ v B => ∃ L, Qc v B.U.heap L ∧ B.locs = A.locs ++ L ∧ B.cells = A.cells + rc ∧ B.slots = A.slots + rs))
    {a : Addr} {cB : ClassId} (hcB : s.vm.findClass Cn = some cB) (hrecv : IsOf cB T a)
    (hg : g.method = m) (hsize : g.locals.size = c.maxLocals) {argsL rest : List Value} (hlen : ∀ sig, parseMethodDescriptor y.desc = some sig → argsL.length = sig.parameters.length)
    (hstack : g.stack = argsL.reverse ++ .ref a :: rest) (hW : 2 * g.monitorRoom + (rest.map fun v => v.category).sum ≤ W) (hdg : decode c.code g.pc = .ok (.invokevirtual index, 3))
    (ha : (Value.ref a :: argsL).toArray = as') (eT : T.heap = h) (hc : cells + rc ≤ R.cells) (hs : slots + rs ≤ R.slots)
    (k : ∀ v T' L, Stand p l e R s m args below meth c T' (locs ++ L) (cells + rc) (slots + rs) → Qc v T'.heap L → own_Go p e below P T' { g with pc := g.pc + 3, stack := v.toList ++ rest }) : own_Go p e below P T g := by
  obtain ⟨v, vm₁, ⟨T', L', k', n'⟩, -, X', ⟨L, hQ, l1, y1, z1⟩, st⟩ := X.virtualBack hx hown hlink hdecl hnf hsel hinst hy hK hcB hrecv hg hsize (Steps.refl _) hlen hstack hW hdg (fun _ _ => ⟨ha, eT, hc, hs⟩)
  dsimp only [Pt.U, Pt.locs, Pt.cells, Pt.slots] at X' l1 y1 z1 st hQ
  subst l1 y1 z1
  exact own_st (fun t k => st.trans k) (k v T' L X' hQ)
theorem own_callI (X : Stand p l e R s m args below meth c T locs cells slots) (hx : p.tables.exec = Jvm.exec) {own Cn : String} {index count : Nat} {xi y : MethodName}
    (hown : s.vm.findClass own = some m.cls) (hlink : (Cond.methodLink own index xi).before args s = true) (hdecl : (Cond.declares xi).before args s = true)
    (hface : (Cond.interfaceMethod xi.cls xi.cls xi.name xi.desc).before args s = true) (hsel : (Cond.selects Cn xi y).before args s = true) (hinst : (Cond.instanceMethod y).before args s = true)
    (hpub : (Cond.publicMethod y).before args s = true) (hunh : (Cond.unhidden Cn xi.name xi.desc).before args s = true) (hcast : (Cond.castable Cn xi.cls).before args s = true)
    (hy : xi.cls ≠ "java/lang/invoke/MethodHandle" ∧ xi.cls ≠ "java/lang/invoke/VarHandle")
    {W rc rs : Nat} {as' : Array Value} {h : Heap} {Qc : Option Value → Heap → List Loc → Prop}
    (hK : Back l R p e below s args y 5 W (fun A a => a = as' ∧ A.U.heap = h ∧ A.cells + rc ≤ R.cells ∧ A.slots + rs ≤ R.slots) (fun A _ v B => ∃ L, Qc v B.U.heap L ∧ B.locs = A.locs ++ L ∧ B.cells = A.cells + rc ∧ B.slots = A.slots + rs))
    {a : Addr} {cB : ClassId} {kB : Class} (hcB : s.vm.findClass Cn = some cB) (hkB : s.vm.classes[cB]? = some kB) (hrecv : IsOf cB T a)
    (hg : g.method = m) (hsize : g.locals.size = c.maxLocals) {argsL rest : List Value} (hlen : ∀ sig, parseMethodDescriptor xi.desc = some sig → argsL.length = sig.parameters.length)
    (hstack : g.stack = argsL.reverse ++ .ref a :: rest) (hW : 2 * g.monitorRoom + (rest.map fun v => v.category).sum ≤ W) (hdg : decode c.code g.pc = .ok (.invokeinterface index count, 5))
    (ha : (Value.ref a :: argsL).toArray = as') (eT : T.heap = h) (hc : cells + rc ≤ R.cells) (hs : slots + rs ≤ R.slots)
    (k : ∀ v T' L, Stand p l e R s m args below meth c T' (locs ++ L) (cells + rc) (slots + rs) → Qc v T'.heap L → own_Go p e below P T' { g with pc := g.pc + 5, stack := v.toList ++ rest }) : own_Go p e below P T g := by
  obtain ⟨v, vm₁, ⟨T', L', k', n'⟩, -, X', ⟨L, hQ, l1, y1, z1⟩, st⟩ := X.interfaceBack hx hown hlink hdecl hface hsel hinst hpub hunh hcast hy hK hcB hkB hrecv hg hsize (Steps.refl _) hlen hstack hW hdg (fun _ _ => ⟨ha, eT, hc, hs⟩)
  dsimp only [Pt.U, Pt.locs, Pt.cells, Pt.slots] at X' l1 y1 z1 st hQ
  subst l1 y1 z1
  exact own_st (fun t k => st.trans k) (k v T' L X' hQ)
theorem own_callP (X : Stand p l e R s m args below meth c T locs cells slots) (hx : p.tables.exec = Jvm.exec) {own : String} {index : Nat} {y : MethodName} {bytes : ByteArray} {maxL : Nat} {ret : Option FieldType}
    (hown : s.vm.findClass own = some m.cls) (hlink : (Cond.methodLink own index y).before args s = true) (hinst : (Cond.instanceMethod y).before args s = true) (hsel : (Cond.selects y.cls y y).before args s = true)
    (hpriv : s.PrivateAt y) (hcode : (Cond.code y bytes maxL ret).before args s = true) (hy : y.cls ≠ "java/lang/invoke/MethodHandle" ∧ y.cls ≠ "java/lang/invoke/VarHandle")
    {W rc rs : Nat} {as' : Array Value} {h : Heap} {Qc : Option Value → Heap → List Loc → Prop}
    (hK : Back l R p e below s args y 3 W (fun A a => a = as' ∧ A.U.heap = h ∧ A.cells + rc ≤ R.cells ∧ A.slots + rs ≤ R.slots) (fun A _ v B => ∃ L, Qc v B.U.heap L ∧ B.locs = A.locs ++ L ∧ B.cells = A.cells + rc ∧ B.slots = A.slots + rs))
    {a : Addr} {cell : Cell} (hcell : T.heap[a]? = some cell) (hobj : ∀ q, cell.vm ≠ .statics q)
    (hg : g.method = m) (hsize : g.locals.size = c.maxLocals) {argsL rest : List Value} (hlen : ∀ sig, parseMethodDescriptor y.desc = some sig → argsL.length = sig.parameters.length)
    (hstack : g.stack = argsL.reverse ++ .ref a :: rest) (hW : 2 * g.monitorRoom + (rest.map fun v => v.category).sum ≤ W) (hdg : decode c.code g.pc = .ok (.invokevirtual index, 3))
    (ha : (Value.ref a :: argsL).toArray = as') (eT : T.heap = h) (hc : cells + rc ≤ R.cells) (hs : slots + rs ≤ R.slots)
    (k : ∀ v T' L, Stand p l e R s m args below meth c T' (locs ++ L) (cells + rc) (slots + rs) → Qc v T'.heap L → own_Go p e below P T' { g with pc := g.pc + 3, stack := v.toList ++ rest }) : own_Go p e below P T g := by
  obtain ⟨v, vm₁, ⟨T', L', k', n'⟩, -, X', ⟨L, hQ, l1, y1, z1⟩, st⟩ := X.privateBack hx hown hlink hinst hsel hpriv hcode hy hK hg hsize (Steps.refl _) hcell hobj hlen hstack hW hdg (fun _ _ => ⟨ha, eT, hc, hs⟩)
  dsimp only [Pt.U, Pt.locs, Pt.cells, Pt.slots] at X' l1 y1 z1 st hQ
  subst l1 y1 z1
  exact own_st (fun t k => st.trans k) (k v T' L X' hQ)
theorem own_callU (X : Stand p l e R s m args below meth c T locs cells slots) (hx : p.tables.exec = Jvm.exec) {own Cn owner : String} {index : Nat} {y z : MethodName}
    (hown : s.vm.findClass own = some m.cls) (hlink : (Cond.methodLink own index y).before args s = true) (hsame : (Cond.sameMethod y.cls owner y.name y.desc).before args s = true)
    (hdecl : (Cond.declares ⟨owner, y.name, y.desc⟩).before args s = true) (howner : owner ≠ "java/lang/invoke/MethodHandle" ∧ owner ≠ "java/lang/invoke/VarHandle")
    (hsel : (Cond.selects Cn y z).before args s = true) (hinst : (Cond.instanceMethod z).before args s = true)
    {W rc rs : Nat} {as' : Array Value} {h : Heap} {Qc : Option Value → Heap → List Loc → Prop}
    (hK : Back l R p e below s args z 3 W (fun A a => a = as' ∧ A.U.heap = h ∧ A.cells + rc ≤ R.cells ∧ A.slots + rs ≤ R.slots) (fun A _ v B => ∃ L, Qc v B.U.heap L ∧ B.locs = A.locs ++ L ∧ B.cells = A.cells + rc ∧ B.slots = A.slots + rs))
    {a : Addr} {cB : ClassId} (hcB : s.vm.findClass Cn = some cB) (hrecv : IsOf cB T a)
    (hg : g.method = m) (hsize : g.locals.size = c.maxLocals) {argsL rest : List Value} (hlen : ∀ sig, parseMethodDescriptor y.desc = some sig → argsL.length = sig.parameters.length)
    (hstack : g.stack = argsL.reverse ++ .ref a :: rest) (hW : 2 * g.monitorRoom + (rest.map fun v => v.category).sum ≤ W) (hdg : decode c.code g.pc = .ok (.invokevirtual index, 3))
    (ha : (Value.ref a :: argsL).toArray = as') (eT : T.heap = h) (hc : cells + rc ≤ R.cells) (hs : slots + rs ≤ R.slots)
    (k : ∀ v T' L, Stand p l e R s m args below meth c T' (locs ++ L) (cells + rc) (slots + rs) → Qc v T'.heap L → own_Go p e below P T' { g with pc := g.pc + 3, stack := v.toList ++ rest }) : own_Go p e below P T g := by
  obtain ⟨v, vm₁, ⟨T', L', k', n'⟩, -, X', ⟨L, hQ, l1, y1, z1⟩, st⟩ := X.virtualBackUp hx hown hlink hsame hdecl howner hsel hinst hK hcB hrecv hg hsize (Steps.refl _) hlen hstack hW hdg (fun _ _ => ⟨ha, eT, hc, hs⟩)
  dsimp only [Pt.U, Pt.locs, Pt.cells, Pt.slots] at X' l1 y1 z1 st hQ
  subst l1 y1 z1
  exact own_st (fun t k => st.trans k) (k v T' L X' hQ)
end Own
section OwnWords
variable {args : Array Value} {s : State} {t u : Term} {x y : Addr} {C n d : String} {z : Int32}
theorem own_feqR (h : (Cond.eq (Term.field t C n d) u).value args s none s [] = some true) (ht : t.eval args s none [] s = some (.ref x)) (hu : u.eval args s none [] s = some (.ref y)) : s.fieldOf? x C n d = some (.ref y) := by
  obtain ⟨x', y', h1, h2, k1, k2⟩ := cmp_v (Or.inl h)
  cases hu.symm.trans h2
  have hr : x'.isRef = true := k2.2
  have := gotT (eq_R h1 h2 hr rfl) h
  rw [← fld_at ht (idx := []) (first := s) (o := none) (args := args), h1, this]
theorem own_feqI (h : (Cond.eq (Term.field t C n d) (.int z)).value args s none s [] = some true) (ht : t.eval args s none [] s = some (.ref x)) : s.fieldOf? x C n d = some (.int z) := by
  obtain ⟨x', y', h1, h2, k1, k2⟩ := cmp_v (Or.inl h)
  cases (Term.int_eval z).symm.trans h2
  obtain ⟨z', rfl⟩ := k2
  have : z' = z := by simpa [Cond.value, h1, Term.int_eval] using h
  rw [← fld_at ht (idx := []) (first := s) (o := none) (args := args), h1, this]
end OwnWords
section OwnArr
variable {args : Array Value} {s : State} {t : Term} {a : Addr} {cl : Cell} {ty : FieldType} {z j v : Int32}
theorem own_len (h : (Cond.eq (Term.length t) (.int z)).value args s none s [] = some true) (ht : t.eval args s none [] s = some (.ref a)) (A : Arr s s.heap a cl ty) : cl.slots.size < 2 ^ 31 ∧ cl.slots.size.toInt32 = z := by
  obtain ⟨x', y', h1, h2, k1, k2⟩ := cmp_v (Or.inl h)
  cases (Term.int_eval z).symm.trans h2
  obtain ⟨z', rfl⟩ := k2
  have e : z' = z := by simpa [Cond.value, h1, Term.int_eval] using h
  have ha := A.fin (Vm.Alike.refl _)
  by_cases q : cl.slots.size < 2 ^ 31
  · rw [len_f ht ha q] at h1
    cases h1
    exact ⟨q, e⟩
  · simp [Term.eval, ht, ha, q] at h1
theorem own_elem (h : (Cond.eq (Term.elem t (.int j)) (.int v)).value args s none s [] = some true) (ht : t.eval args s none [] s = some (.ref a)) (A : Arr s s.heap a cl ty) (hj : ¬ j < 0) : cl.slots[j.toNatClampNeg]? = some (.int v) := by
  obtain ⟨x', y', h1, h2, k1, k2⟩ := cmp_v (Or.inl h)
  cases (Term.int_eval v).symm.trans h2
  obtain ⟨z', rfl⟩ := k2
  have e : z' = v := by simpa [Cond.value, h1, Term.int_eval] using h
  rw [elem_f ht (Term.int_eval j) (A.fin (Vm.Alike.refl _)) hj] at h1
  rw [h1, e]
theorem own_elemR {u : Term} {y : Addr} (h : (Cond.eq (Term.elem t (.int j)) u).value args s none s [] = some true) (ht : t.eval args s none [] s = some (.ref a)) (hu : u.eval args s none [] s = some (.ref y)) (A : Arr s s.heap a cl ty) (hj : ¬ j < 0) : cl.slots[j.toNatClampNeg]? = some (.ref y) := by
  obtain ⟨x', y', h1, h2, k1, k2⟩ := cmp_v (Or.inl h)
  cases hu.symm.trans h2
  have hr : x'.isRef = true := k2.2
  have e := gotT (eq_R h1 h2 hr rfl) h
  rw [elem_f ht (Term.int_eval j) (A.fin (Vm.Alike.refl _)) hj] at h1
  rw [h1, e]
end OwnArr

theorem own_words {Z : State} {a0 : Array Value} (hw : ∀ d ∈ tables_1, d.before a0 Z = true) : ∀ d ∈ StrChars.Road.words, d.before a0 Z = true := fun d hd => hw d ((by decide +kernel : ∀ d ∈ StrChars.Road.words, d ∈ tables_1) d hd)
theorem own_lnil : ∀ c ∈ ([] : List Int32), ¬ c < 0 ∧ ¬ (255 : Int32) < c := fun _ h => nomatch h
theorem own_lcons {a : Int32} {cs : List Int32} (h : ¬ a < 0 ∧ ¬ (255 : Int32) < a) (r : ∀ c ∈ cs, ¬ c < 0 ∧ ¬ (255 : Int32) < c) : ∀ c ∈ a :: cs, ¬ c < 0 ∧ ¬ (255 : Int32) < c := fun c hc => (List.mem_cons.mp hc).elim (fun e => e ▸ h) (r c)
theorem own_lat (y : Int32) (h : 0 ≤ y.toInt ∧ y.toInt ≤ 255) : nar .char y = y ∧ ¬ y < 0 ∧ ¬ (255 : Int32) < y := by
  have c := c_i2c y
  refine ⟨Int32.toInt_inj.mp ?_, ?_, ?_⟩
  · show y.toUInt32.toUInt16.toUInt32.toInt32.toInt = y.toInt
    omega
  · rw [Int32.lt_iff_toInt_lt]; show ¬ y.toInt < 0; omega
  · rw [Int32.lt_iff_toInt_lt]; show ¬ (255 : Int) < y.toInt; omega
theorem own_and255 (x : Int32) : ¬ nar .char ((x &&& (255 : Int32)).toUInt32.toUInt16.toUInt32.toInt32) < 0 ∧ ¬ (255 : Int32) < nar .char ((x &&& (255 : Int32)).toUInt32.toUInt16.toUInt32.toInt32) := by
  have h := c_and x (255 : Int32) (by decide)
  have e := own_lat (x &&& 255) ⟨h.1, h.2⟩
  have e2 : (x &&& (255 : Int32)).toUInt32.toUInt16.toUInt32.toInt32 = x &&& 255 := e.1
  rw [e2, e.1]; exact e.2
theorem own_up {cs : List Int32} (h : ∀ c ∈ cs, ¬ c < 0 ∧ ¬ (255 : Int32) < c) : ∀ c ∈ cs, ¬ c < 0 ∧ ¬ (65535 : Int32) < c := fun c hc => ⟨(h c hc).1, fun q => (h c hc).2 (by rw [Int32.lt_iff_toInt_lt] at q ⊢; have e1 : (65535 : Int32).toInt = 65535 := rfl; have e2 : (255 : Int32).toInt = 255 := rfl; omega)⟩
def own_L (y : Int32) : Prop := 0 ≤ y.toInt ∧ y.toInt ≤ 255
theorem own_i2cL (x : Int32) : own_L ((x &&& (255 : Int32)).toUInt32.toUInt16.toUInt32.toInt32) := by
  have h := c_and x (255 : Int32) (by decide)
  have e2 : (x &&& (255 : Int32)).toUInt32.toUInt16.toUInt32.toInt32 = x &&& 255 := (own_lat (x &&& 255) ⟨h.1, h.2⟩).1
  rw [e2]
  exact h
theorem own_LN {y : Int32} (h : own_L y) : nar .char y = y := (own_lat y h).1
theorem own_LL {y : Int32} (h : own_L y) : ¬ y < 0 ∧ ¬ (255 : Int32) < y := (own_lat y h).2
theorem own_LLN {y : Int32} (h : own_L y) : ¬ nar .char y < 0 ∧ ¬ (255 : Int32) < nar .char y := by rw [own_LN h]; exact own_LL h
theorem own_wEq {Z : State} {a0 : Array Value} (hw : ∀ d ∈ tables_1, d.before a0 Z = true) : ∀ d ∈ StrChars.Road.wordsEq, d.before a0 Z = true := fun d hd => hw d ((by decide +kernel : ∀ d ∈ StrChars.Road.wordsEq, d ∈ tables_1) d hd)
def own_QEq (cs ds : List Int32) (h : Heap) (v : Option Value) (h' : Heap) (L : List Loc) : Prop := ((v = some (.int 1) ∧ cs = ds) ∨ (v = some (.int 0) ∧ ¬ cs = ds)) ∧ L = [] ∧ h' = h
theorem own_eqB {l : Launch} {R : Room} {p : Program} {e : Env} {below : List Frame} {s : State} {args : Array Value} {y : MethodName} {len W : Nat} {P : Pt → Array Value → Prop} {cs ds : List Int32} {h : Heap}
    (B : Back l R p e below s args y len W P (fun P _ v B => ∃ L, (((v = some (.int 1) ∧ cs = ds) ∨ (v = some (.int 0) ∧ ¬ cs = ds)) ∧ L = [] ∧ B.U.heap = h) ∧ B.locs = P.locs ++ L ∧ B.cells = P.cells + 0 ∧ B.slots = P.slots + 0)) :
    Back l R p e below s args y len W P (fun P _ v B => ∃ L, own_QEq cs ds h v B.U.heap L ∧ B.locs = P.locs ++ L ∧ B.cells = P.cells + 0 ∧ B.slots = P.slots + 0) := B
/-! Walks that may intern: what is kept beside the Stand over 's.setVm vm0'. -/
def own_Bk (Z : State) (EL : List (String × Nat)) (s : State) (h0 : Heap) (vm0 : Vm) (H : Heap) : Prop := (∃ k0, s.Since vm0 k0 ∧ k0 ≤ H.size) ∧ CHr Z EL s.vm h0 vm0 H
abbrev own_EndS (Z : State) (EL : List (String × Nat)) (s : State) (Q : Option Value → Heap → List Loc → Prop) (C S : Nat) : Outcome → State → Prop := fun o s₂ => ∃ v L, o = .returned v ∧ Q v s₂.heap L ∧ CHr Z EL s.vm s.heap s₂.vm s₂.heap ∧ ReturnedEndW s o s₂ L C S
section OwnS
variable {p : Program} {l : Launch} {e : Env} {R : Room} {s : State} {m : MethodId} {args : Array Value} {below : List Frame} {meth : Method} {c : Code} {T T' : State} {locs : List Loc} {cells slots : Nat} {P : Outcome → State → Prop} {g g' : JFrame} {Q : Option Value → Heap → List Loc → Prop} {C S : Nat} {Z : State} {EL : List (String × Nat)} {a0 : Array Value} {h0 H H' h : Heap} {vm0 vm1 : Vm} {a : Addr} {sl : Nat} {v : Value} {ws : List Addr}
theorem own_Bk.start (H : CHv Z EL s.vm h0) : own_Bk Z EL s h0 s.vm h0 := ⟨⟨0, (State.WarmedH.refl s).since 0, Nat.zero_le _⟩, CHr.refl H⟩
theorem own_Bk.ch (B : own_Bk Z EL s h0 vm0 H) : CHv Z EL vm0 H := B.2.1
theorem own_Bk.ext (E : Ext H H') (B : own_Bk Z EL s h0 vm0 H) : own_Bk Z EL s h0 vm0 H' := by
  obtain ⟨⟨k, h1, h2⟩, r⟩ := B
  exact ⟨⟨k, h1, Nat.le_trans h2 E.1⟩, r.trans (CHr.ext E r.1)⟩
theorem own_Bk.wr (W : Wr H H' a sl v) (q : Safe Z EL vm0 H a) (B : own_Bk Z EL s h0 vm0 H) : own_Bk Z EL s h0 vm0 H' := by
  obtain ⟨⟨k, h1, h2⟩, r⟩ := B
  exact ⟨⟨k, h1, by rw [W.size]; exact h2⟩, r.trans (CHr.wr W q r.1)⟩
theorem own_Bk.keep (K : Keep H H' ws) (q : ∀ x ∈ ws, Safe Z EL vm0 H x) (B : own_Bk Z EL s h0 vm0 H) : own_Bk Z EL s h0 vm0 H' := by
  obtain ⟨⟨k, h1, h2⟩, r⟩ := B
  exact ⟨⟨k, h1, Nat.le_trans h2 K.1⟩, r.trans (CHr.keep K q r.1)⟩
theorem own_leaveS (X : Stand p l e R (s.setVm vm0) m args below meth c T locs cells slots) (hZ : Z.Warmed39 vm0) (hEL : EW Z a0 EL) (eT : T.heap = H) (h0e : s.heap = h0) (B : own_Bk Z EL s h0 vm0 H) (hlk : meth.locks = false) {v : Option Value} (hv : meth.sig.returnType = none → v = none)
    (k : ∀ fs, (∀ (f : JFrame) (acts : List Action), f.method = m → f.locked = none → f.entered = [] → (doReturn e (T.setTop f) acts v).1 = T.setFrames fs) → Steps p.tables e below (T.setTop g) (T.setFrames fs))
    (hQ : Q v T.heap locs) (hC : cells ≤ C) (hS : slots ≤ S) : own_Go p e below (own_EndS Z EL s Q C S) T g := by
  obtain ⟨⟨k0, b1, b2⟩, r⟩ := B
  obtain ⟨fs, hr, hrun, hended, hW, hsame⟩ := X.leave hv hlk
  have q := b1.ended hW (show k0 ≤ T.heap.size by rw [eT]; exact b2) hsame
  refine ⟨_, _, k fs hr, hrun, hended, _, _, rfl, hQ, ?_, ⟨_, rfl⟩, q.1, q.2.1, q.2.2.mono hC hS⟩
  have z := r.trans (CHv.at X hZ hEL r.1)
  subst eT h0e
  exact z
theorem own_retNS (X : Stand p l e R (s.setVm vm0) m args below meth c T locs cells slots) (hx : p.tables.exec = Jvm.exec) (hlk : meth.locks = false) (hZ : Z.Warmed39 vm0) (hEL : EW Z a0 EL) (eT : T.heap = H) (h0e : s.heap = h0) (B : own_Bk Z EL s h0 vm0 H) {pc : Nat} {Ls : Array Slot} {z : Int32} {t : FieldType} {rest : List Value} (hret : meth.sig.returnType = some t) (ht : t = .boolean ∨ t = .byte ∨ t = .char ∨ t = .short)
    (hd : decode c.code pc = .ok (.ireturn, 1)) (hQ : Q (some (.int (nar t z))) T.heap locs) (hC : cells ≤ C) (hS : slots ≤ S) : own_Go p e below (own_EndS Z EL s Q C S) T (mkF m pc Ls (.int z :: rest)) :=
  own_leaveS X hZ hEL eT h0e B hlk (fun h => by rw [hret] at h; cases h) (fun fs hr => retN X hx hret ht hd hr) hQ hC hS
theorem own_retIS (X : Stand p l e R (s.setVm vm0) m args below meth c T locs cells slots) (hx : p.tables.exec = Jvm.exec) (hlk : meth.locks = false) (hZ : Z.Warmed39 vm0) (hEL : EW Z a0 EL) (eT : T.heap = H) (h0e : s.heap = h0) (B : own_Bk Z EL s h0 vm0 H) {pc : Nat} {Ls : Array Slot} {z : Int32} {rest : List Value} (hret : meth.sig.returnType = some .int)
    (hd : decode c.code pc = .ok (.ireturn, 1)) (hQ : Q (some (.int z)) T.heap locs) (hC : cells ≤ C) (hS : slots ≤ S) : own_Go p e below (own_EndS Z EL s Q C S) T (mkF m pc Ls (.int z :: rest)) :=
  own_leaveS X hZ hEL eT h0e B hlk (fun h => by rw [hret] at h; cases h) (fun fs hr => retOut X hx hret rfl (Or.inl ⟨rfl, Or.inl rfl, z, rfl⟩) hd hr) hQ hC hS
theorem own_retAS (X : Stand p l e R (s.setVm vm0) m args below meth c T locs cells slots) (hx : p.tables.exec = Jvm.exec) (hlk : meth.locks = false) (hZ : Z.Warmed39 vm0) (hEL : EW Z a0 EL) (eT : T.heap = H) (h0e : s.heap = h0) (B : own_Bk Z EL s h0 vm0 H) {pc : Nat} {Ls : Array Slot} {w : Value} {t : FieldType} {rest : List Value} (hret : meth.sig.returnType = some t) (ht : t.isReference = true) (hw : w.isRef = true)
    (hd : decode c.code pc = .ok (.areturn, 1)) (hQ : Q (some w) T.heap locs) (hC : cells ≤ C) (hS : slots ≤ S) : own_Go p e below (own_EndS Z EL s Q C S) T (mkF m pc Ls (w :: rest)) :=
  own_leaveS X hZ hEL eT h0e B hlk (fun h => by rw [hret] at h; cases h) (fun fs hr => retOut X hx hret (own_narrow_ref ht) (Or.inr (Or.inr (Or.inr (Or.inr ⟨rfl, ht, hw⟩)))) hd hr) hQ hC hS
theorem own_ret0S (X : Stand p l e R (s.setVm vm0) m args below meth c T locs cells slots) (hx : p.tables.exec = Jvm.exec) (hlk : meth.locks = false) (hZ : Z.Warmed39 vm0) (hEL : EW Z a0 EL) (eT : T.heap = H) (h0e : s.heap = h0) (B : own_Bk Z EL s h0 vm0 H) {pc : Nat} {Ls : Array Slot} (hret : meth.sig.returnType = none)
    (hd : decode c.code pc = .ok (.return_, 1)) (hQ : Q none T.heap locs) (hC : cells ≤ C) (hS : slots ≤ S) : own_Go p e below (own_EndS Z EL s Q C S) T (mkF m pc Ls []) :=
  own_leaveS X hZ hEL eT h0e B hlk (fun _ => rfl) (fun fs hr => X.returnOut hx hret hd hr) hQ hC hS
theorem own_ldc (X : Stand p l e R (s.setVm vm0) m args below meth c T locs cells slots) (hx : p.tables.exec = Jvm.exec) (hZ : Z.Warmed39 vm0) {own text : String} {index : Nat} (hown : vm0.findClass own = some m.cls) (w : (Cond.stringLink own index text).before a0 Z = true) (wS : ∀ a ∈ Bundle.stringAtoms, a.before a0 Z = true)
    (eT : T.heap = H) (hEL : EW Z a0 EL) (hmem : (own, index) ∈ EL) (B : own_Bk Z EL s h0 vm0 H)
    {vs : List Value} {z : Int32} (ht : (∀ c ∈ text.toList, c.toNat < 256) ∧ text.toList.map (fun c => Value.int (Jvm.Lit.byteI c.toNat.toUInt16)) = vs) (hz : ¬ z < 0) (hl : z.toNatClampNeg = vs.length)
    (hg : g.method = m) (hd : decode c.code g.pc = .ok (.ldc index, 2)) {n : Nat} (hn : 4 * text.toList.length ≤ n) (hbig : n ≤ 536870912) (hc : cells + 2 ≤ R.cells) (hl' : slots + (n + 4) ≤ R.slots) :
    ∃ (a : Addr) (T' : State) (h' : Heap) (b : Addr) (k : ClassId), Stand p l e R (s.setVm T'.vm) m args below meth c T' locs (cells + 2) (slots + (n + 4)) ∧ T'.heap = h' ∧ Ext H h' ∧ Z.Warmed39 T'.vm ∧ T'.vm.findClass own = some m.cls ∧
      Exa Z h' a "java/lang/String" ∧ Fld Z h' a "java/lang/String" "coder" "B" (.int 0) ∧ Fld Z h' a "java/lang/String" "value" "[B" (.ref b) ∧ Arv Z h' b k .byte z vs (.int 0) ∧ CHr Z EL vm0 H T'.vm h' ∧ own_Bk Z EL s h0 T'.vm h' ∧ (∀ x, Safe Z EL T'.vm h' x → x ≠ a ∧ x ≠ b) ∧
      ∀ target, Steps p.tables e below (T'.setTop { g with pc := g.pc + 2, stack := .ref a :: g.stack }) target → Steps p.tables e below (T.setTop g) target := by
  obtain ⟨⟨k0, b1, b2⟩, r⟩ := B
  obtain ⟨a, T', h', k1, b, k, r1, r2, r3, r4, r5, r6, r7, r8, r9, r10, r11, -, -, r14, -, r16, r17⟩ := ldcCH X hx hZ hown w wS eT b1 b2 hEL hmem r.1 ht hz hl hg hd hn hbig hc hl'
  exact ⟨a, T', h', b, k, r1, r2, r3, r6, r7, r8, r9, r10, r11, r14, ⟨⟨k1, r4, r5⟩, r.trans r14⟩, r16, r17⟩
theorem own_callSS (X : Stand p l e R (s.setVm vm0) m args below meth c T locs cells slots) (hx : p.tables.exec = Jvm.exec) {own : String} {index : Nat} {y : MethodName} {bytes : ByteArray} {maxL : Nat} {ret : Option FieldType}
    (hown : (s.setVm vm0).vm.findClass own = some m.cls) (hlink : (Cond.methodLink own index y).before args (s.setVm vm0) = true) (hstat : (Cond.static y).before args (s.setVm vm0) = true) (hinit : (Cond.initialized y.cls).before args (s.setVm vm0) = true)
    (hcode : (Cond.code y bytes maxL ret).before args (s.setVm vm0) = true) (hy : y.cls ≠ "java/lang/invoke/MethodHandle" ∧ y.cls ≠ "java/lang/invoke/VarHandle")
    {W rc rs : Nat} {as' : Array Value} {Qc : Option Value → Heap → List Loc → Prop}
    (hK : BackS l R p e below (s.setVm vm0) args y 3 W (fun A a => a = as' ∧ A.U.heap = h ∧ A.cells + rc ≤ R.cells ∧ A.slots + rs ≤ R.slots) (fun A _ v B => ∃ L, Qc v B.U.heap L ∧ B.locs = A.locs ++ L ∧ B.cells = A.cells + rc ∧ B.slots = A.slots + rs ∧ CHr Z EL vm0 h B.U.vm B.U.heap))
    (hg : g.method = m) (hsize : g.locals.size = c.maxLocals) {argsL rest : List Value} (hlen : ∀ sig, parseMethodDescriptor y.desc = some sig → argsL.length = sig.parameters.length)
    (hstack : g.stack = argsL.reverse ++ rest) (hW : 2 * g.monitorRoom + (rest.map fun v => v.category).sum ≤ W) (hdg : decode c.code g.pc = .ok (.invokestatic index, 3))
    (ha : argsL.toArray = as') (eT : T.heap = h) (hc : cells + rc ≤ R.cells) (hs : slots + rs ≤ R.slots) (hZ : Z.Warmed39 vm0) (B : own_Bk Z EL s h0 vm0 h)
    (k : ∀ v T' L, Stand p l e R (s.setVm T'.vm) m args below meth c T' (locs ++ L) (cells + rc) (slots + rs) → Qc v T'.heap L → CHr Z EL vm0 h T'.vm T'.heap → own_Bk Z EL s h0 T'.vm T'.heap → Z.Warmed39 T'.vm → T'.vm.findClass own = some m.cls → own_Go p e below P T' { g with pc := g.pc + 3, stack := v.toList ++ rest }) : own_Go p e below P T g := by
  obtain ⟨v, vm₁, ⟨T', L', k', n'⟩, -, X', hS', hgr, ⟨L, hQ, l1, y1, z1, hC⟩, st⟩ := callSS X hx hown hlink hstat hinit hcode hy hK hg hsize hlen hstack hW hdg (fun _ _ => ⟨ha, eT, hc, hs⟩)
  dsimp only [Pt.U, Pt.locs, Pt.cells, Pt.slots] at X' l1 y1 z1 st hQ hS' hgr hC
  subst l1 y1 z1
  obtain ⟨⟨k0, b1, b2⟩, r⟩ := B
  have hS2 := foldS b1 (show k0 ≤ T.heap.size by rw [eT]; exact b2) hS' hgr
  exact own_st (fun t k => st.trans k) (k v T' L X' hQ hC ⟨⟨_, hS2, Nat.le_refl _⟩, r.trans hC⟩ (State.Warmed39.trans (t := s.setVm vm0) hZ hS'.1) (by rw [hS'.1.alike.findClass]; exact hown))
theorem own_callNS (X : Stand p l e R (s.setVm vm0) m args below meth c T locs cells slots) (hx : p.tables.exec = Jvm.exec) {own : String} {index : Nat} {y : MethodName} {bytes : ByteArray} {maxL : Nat} (hy1 : y.name = "<init>")
    (hown : (s.setVm vm0).vm.findClass own = some m.cls) (hlink : (Cond.methodLink own index y).before args (s.setVm vm0) = true) (hinst : (Cond.instanceMethod y).before args (s.setVm vm0) = true)
    (hcode : (Cond.code y bytes maxL none).before args (s.setVm vm0) = true) (hy : y.cls ≠ "java/lang/invoke/MethodHandle" ∧ y.cls ≠ "java/lang/invoke/VarHandle")
    {W rc rs : Nat} {as' : Array Value} {Qc : Option Value → Heap → List Loc → Prop}
    (hK : BackS l R p e below (s.setVm vm0) args y 3 W (fun A a => a = as' ∧ A.U.heap = h ∧ A.cells + rc ≤ R.cells ∧ A.slots + rs ≤ R.slots) (fun A _ v B => ∃ L, Qc v B.U.heap L ∧ B.locs = A.locs ++ L ∧ B.cells = A.cells + rc ∧ B.slots = A.slots + rs ∧ CHr Z EL vm0 h B.U.vm B.U.heap))
    {a : Addr} (hg : g.method = m) (hsize : g.locals.size = c.maxLocals) {argsL rest : List Value} (hlen : ∀ sig, parseMethodDescriptor y.desc = some sig → argsL.length = sig.parameters.length)
    (hstack : g.stack = argsL.reverse ++ .ref a :: rest) (hW : 2 * g.monitorRoom + (rest.map fun v => v.category).sum ≤ W) (hdg : decode c.code g.pc = .ok (.invokespecial index, 3))
    (ha : (Value.ref a :: argsL).toArray = as') (eT : T.heap = h) (hc : cells + rc ≤ R.cells) (hs : slots + rs ≤ R.slots) (hZ : Z.Warmed39 vm0) (B : own_Bk Z EL s h0 vm0 h)
    (k : ∀ v T' L, Stand p l e R (s.setVm T'.vm) m args below meth c T' (locs ++ L) (cells + rc) (slots + rs) → Qc v T'.heap L → CHr Z EL vm0 h T'.vm T'.heap → own_Bk Z EL s h0 T'.vm T'.heap → Z.Warmed39 T'.vm → T'.vm.findClass own = some m.cls → own_Go p e below P T' { g with pc := g.pc + 3, stack := v.toList ++ rest }) : own_Go p e below P T g := by
  obtain ⟨v, vm₁, ⟨T', L', k', n'⟩, -, X', hS', hgr, ⟨L, hQ, l1, y1, z1, hC⟩, st⟩ := X.specialBackS hx hy1 hown hlink hinst hcode hy hK hg hsize (Steps.refl _) hlen hstack hW hdg (fun _ _ => ⟨ha, eT, hc, hs⟩)
  dsimp only [Pt.U, Pt.locs, Pt.cells, Pt.slots] at X' l1 y1 z1 st hQ hS' hgr hC
  subst l1 y1 z1
  obtain ⟨⟨k0, b1, b2⟩, r⟩ := B
  have hS2 := foldS b1 (show k0 ≤ T.heap.size by rw [eT]; exact b2) hS' hgr
  exact own_st (fun t k => st.trans k) (k v T' L X' hQ hC ⟨⟨_, hS2, Nat.le_refl _⟩, r.trans hC⟩ (State.Warmed39.trans (t := s.setVm vm0) hZ hS'.1) (by rw [hS'.1.alike.findClass]; exact hown))
theorem own_callVS (X : Stand p l e R (s.setVm vm0) m args below meth c T locs cells slots) (hx : p.tables.exec = Jvm.exec) {own Cn : String} {index : Nat} {y z : MethodName}
    (hown : (s.setVm vm0).vm.findClass own = some m.cls) (hlink : (Cond.methodLink own index y).before args (s.setVm vm0) = true) (hdecl : (Cond.declares y).before args (s.setVm vm0) = true) (hnf : NotFace (s.setVm vm0) y)
    (hsel : (Cond.selects Cn y z).before args (s.setVm vm0) = true) (hinst : (Cond.instanceMethod z).before args (s.setVm vm0) = true)
    (hy : y.cls ≠ "java/lang/invoke/MethodHandle" ∧ y.cls ≠ "java/lang/invoke/VarHandle")
    {W rc rs : Nat} {as' : Array Value} {Qc : Option Value → Heap → List Loc → Prop}
    (hK : BackS l R p e below (s.setVm vm0) args z 3 W (fun A a => a = as' ∧ A.U.heap = h ∧ A.cells + rc ≤ R.cells ∧ A.slots + rs ≤ R.slots) (fun A _ v B => ∃ L, Qc v B.U.heap L ∧ B.locs = A.locs ++ L ∧ B.cells = A.cells + rc ∧ B.slots = A.slots + rs ∧ CHr Z EL vm0 h B.U.vm B.U.heap))
    {a : Addr} {cB : ClassId} (hcB : (s.setVm vm0).vm.findClass Cn = some cB) (hrecv : IsOf cB T a)
    (hg : g.method = m) (hsize : g.locals.size = c.maxLocals) {argsL rest : List Value} (hlen : ∀ sig, parseMethodDescriptor y.desc = some sig → argsL.length = sig.parameters.length)
    (hstack : g.stack = argsL.reverse ++ .ref a :: rest) (hW : 2 * g.monitorRoom + (rest.map fun v => v.category).sum ≤ W) (hdg : decode c.code g.pc = .ok (.invokevirtual index, 3))
    (ha : (Value.ref a :: argsL).toArray = as') (eT : T.heap = h) (hc : cells + rc ≤ R.cells) (hs : slots + rs ≤ R.slots) (hZ : Z.Warmed39 vm0) (B : own_Bk Z EL s h0 vm0 h)
    (k : ∀ v T' L, Stand p l e R (s.setVm T'.vm) m args below meth c T' (locs ++ L) (cells + rc) (slots + rs) → Qc v T'.heap L → CHr Z EL vm0 h T'.vm T'.heap → own_Bk Z EL s h0 T'.vm T'.heap → Z.Warmed39 T'.vm → T'.vm.findClass own = some m.cls → own_Go p e below P T' { g with pc := g.pc + 3, stack := v.toList ++ rest }) : own_Go p e below P T g := by
  obtain ⟨v, vm₁, ⟨T', L', k', n'⟩, -, X', hS', hgr, ⟨L, hQ, l1, y1, z1, hC⟩, st⟩ := X.virtualBackS hx hown hlink hdecl hnf hsel hinst hy hK hcB hrecv hg hsize (Steps.refl _) hlen hstack hW hdg (fun _ _ => ⟨ha, eT, hc, hs⟩)
  dsimp only [Pt.U, Pt.locs, Pt.cells, Pt.slots] at X' l1 y1 z1 st hQ hS' hgr hC
  subst l1 y1 z1
  obtain ⟨⟨k0, b1, b2⟩, r⟩ := B
  have hS2 := foldS b1 (show k0 ≤ T.heap.size by rw [eT]; exact b2) hS' hgr
  exact own_st (fun t k => st.trans k) (k v T' L X' hQ hC ⟨⟨_, hS2, Nat.le_refl _⟩, r.trans hC⟩ (State.Warmed39.trans (t := s.setVm vm0) hZ hS'.1) (by rw [hS'.1.alike.findClass]; exact hown))
end OwnS

theorem own_EL {Z : State} {a0 : Array Value} (hw : ∀ d ∈ tables_1, d.before a0 Z = true) : EW Z a0 consts_1 := (EW.cons (hw _ (List.mem_of_getElem? (i := 34) rfl)) (by decide) (EW.cons (hw _ (List.mem_of_getElem? (i := 50) rfl)) (by decide) EW.nil))
theorem own_wS {Z : State} {a0 : Array Value} (hw : ∀ d ∈ tables_1, d.before a0 Z = true) : ∀ a ∈ Bundle.stringAtoms, a.before a0 Z = true := fun d hd => hw d ((by decide +kernel : ∀ d ∈ Bundle.stringAtoms, d ∈ tables_1) d hd)
def QM (Z : State) (cs : List Int32) (h0 : Heap) (n0 : Nat) (v : Option Value) (h : Heap) (L : List Loc) : Prop := ∃ (x t : Addr) (kb : ClassId), v = some (.ref x) ∧ Fr n0 L ∧ Keep h0 h [] ∧ h0.size ≤ x ∧ n0 ≤ x ∧ ¬ t = x ∧ Exa Z h x "java/lang/String" ∧ Fld Z h x "java/lang/String" "coder" "B" (.int 0) ∧ Fld Z h x "java/lang/String" "value" "[B" (.ref t) ∧ Arv Z h t kb .byte (Int32.ofNat cs.length) ((cs.map (fun c => c.toInt8.toInt32)).map Value.int) (.int 0) ∧ ∀ c ∈ cs, ¬ c < 0 ∧ ¬ (255 : Int32) < c
theorem own_pickL (x : Int64) : own_L (nar .char ((x &&& (255 : Int64)).toInt32.toUInt32.toUInt16.toUInt32.toInt32)) := by
  have h1 := c_maskL x (255 : Int64) 8 (by decide) (by decide)
  have h2 := c_l2i (x &&& (255 : Int64))
  have r := rng32 (x &&& (255 : Int64)).toInt32
  have hl : own_L (x &&& (255 : Int64)).toInt32 := ⟨by omega, by omega⟩
  have e : (x &&& (255 : Int64)).toInt32.toUInt32.toUInt16.toUInt32.toInt32 = (x &&& (255 : Int64)).toInt32 := (own_lat _ hl).1
  rw [e, (own_lat _ hl).1]
  exact hl
def QK (h0 : Heap) (n0 : Nat) (v : Option Value) (h : Heap) (L : List Loc) : Prop := ∃ c : Int32, v = some (.int c) ∧ Fr n0 L ∧ h = h0 ∧ own_L c
theorem d1_0 : decode method_2_code 0 = .ok (.lload_n 0, 1) := by decide +kernel
theorem d1_1 : decode method_2_code 1 = .ok (.bipush 8, 2) := by decide +kernel
theorem d1_3 : decode method_2_code 3 = .ok (.iload_n 2, 1) := by decide +kernel
theorem d1_4 : decode method_2_code 4 = .ok (.imul, 1) := by decide +kernel
theorem d1_5 : decode method_2_code 5 = .ok (.lushr, 1) := by decide +kernel
theorem d1_6 : decode method_2_code 6 = .ok (.ldc2_w 7, 3) := by decide +kernel
theorem d1_9 : decode method_2_code 9 = .ok (.land, 1) := by decide +kernel
theorem d1_10 : decode method_2_code 10 = .ok (.l2i, 1) := by decide +kernel
theorem d1_11 : decode method_2_code 11 = .ok (.i2c, 1) := by decide +kernel
theorem d1_12 : decode method_2_code 12 = .ok (.ireturn, 1) := by decide +kernel
theorem pn_0 : plainName "com/example/lean_pubsub/leanpubsub/codec/ProtocolVersionFindPinLaw" = true := by first | (simp [plainName, overriddenIn]; done) | decide +kernel
theorem ef_rmPK (m : MethodId) (x0 : Int64) (x1 : Int32) : entryFrame m #[(.long x0), (.int x1)] 3 = mkF m 0 #[.val (.long x0), .second, .val (.int x1)] [] := by first | (simp [entryFrame, mkF, argsToLocals, Value.category]; done) | rfl
set_option maxRecDepth 65536 in
set_option maxHeartbeats 40000000 in
theorem rmPK (l : Launch) (Z : State) (a0 : Array Value) (hw : ∀ d ∈ tables_1, d.before a0 Z = true) (ws : List Jvm.Cond) (d : Int64) (i : Int32) (h0 : Heap) (n0 : Nat) (Z0 : n0 ≤ h0.size) :
    MetFree l (⟨"com/example/lean_pubsub/leanpubsub/codec/ProtocolVersionFindPinLaw", "pick", "(JI)C"⟩ : MethodName) (head1 (Jvm.Cond.code (⟨"com/example/lean_pubsub/leanpubsub/codec/ProtocolVersionFindPinLaw", "pick", "(JI)C"⟩ : MethodName) method_2_code 3 (some .char) :: ws) ({ frames := 0, cells := 0, slots := 0, locals := 0 } : Room)) (fun a_ U_ => a_ = #[(.long d), (.int i)] ∧ Z.Warmed39 U_.vm ∧ U_.heap = h0) (fun _ _ _ _ _ => True) (fun _ U_ o_ U'_ => ∃ v_ L_, o_ = .returned v_ ∧ QK h0 n0 v_ U'_.heap L_ ∧ FrameEnd U_ o_ U'_ L_ ({ frames := 0, cells := 0, slots := 0, locals := 0 } : Room).cells ({ frames := 0, cells := 0, slots := 0, locals := 0 } : Room).slots) := by
  refine MetFree.of_bodySF (plainFor_of_name pn_0) hisR ?_
  intro p e s m args below meth c s₁ Bd hml0 hP hK
  obtain ⟨rfl, hZ, hh⟩ := hP
  have hx := Bd.exec
  have hby := Bd.bytes
  have hml : c.maxLocals = 3 := hml0
  have hown : s.vm.findClass "com/example/lean_pubsub/leanpubsub/codec/ProtocolVersionFindPinLaw" = some m.cls := findClass_of_methodNamed Bd.named
  have hnm := (name_of_methodNamed Bd.named Bd.method).1
  have hlk := BodyLoose.notSynchronized Bd
  have X0 : Stand p l e ({ frames := 0, cells := 0, slots := 0, locals := 0 } : Room) s m #[(.long d), (.int i)] below meth c s₁ [] 0 0 := Stand.of_body Bd
  have e0 : s₁.heap = h0 := by rw [← hh, Bd.state]; rfl
  have N0 := Fr.nil n0
  refine own_entry (P := own_End s (QK h0 n0) ({ frames := 0, cells := 0, slots := 0, locals := 0 } : Room).cells ({ frames := 0, cells := 0, slots := 0, locals := 0 } : Room).slots) (ef_rmPK m d i) ?_
  show own_Go p e below _ s₁ (mkF m 0 #[.val (.long d), .second, .val (.int i)] [])
  refine own_st (fun t_ k_ => XS.lloadN X0.here hx rfl (hb hby d1_0) rfl k_) ?_
  show own_Go p e below _ s₁ (mkF m 1 #[.val (.long d), .second, .val (.int i)] [(.long d)])
  refine own_st (fun t_ k_ => XS.bipush X0.here hx rfl (hb hby d1_1) k_) ?_
  show own_Go p e below _ s₁ (mkF m 3 #[.val (.long d), .second, .val (.int i)] [(.int (8 : Int32)), (.long d)])
  refine own_st (fun t_ k_ => XS.iloadN X0.here hx rfl (hb hby d1_3) rfl k_) ?_
  show own_Go p e below _ s₁ (mkF m 4 #[.val (.long d), .second, .val (.int i)] [(.int i), (.int (8 : Int32)), (.long d)])
  refine own_st (fun t_ k_ => XS.imul X0.here hx rfl (hb hby d1_4) rfl k_) ?_
  show own_Go p e below _ s₁ (mkF m 5 #[.val (.long d), .second, .val (.int i)] [(.int ((8 : Int32) * i)), (.long d)])
  refine own_st (fun t_ k_ => XS.lushr X0.here hx rfl (hb hby d1_5) rfl k_) ?_
  show own_Go p e below _ s₁ (mkF m 6 #[.val (.long d), .second, .val (.int i)] [(.long ((d.toUInt64 >>> (((8 : Int32) * i) &&& 0x3f).toInt64.toUInt64).toInt64))])
  refine own_st (fun t_ k_ => X0.ldc2J hx hown (mvT hZ (hw _ (List.mem_of_getElem? (i := 78) rfl))) rfl (hb hby d1_6) k_) ?_
  show own_Go p e below _ s₁ (mkF m 9 #[.val (.long d), .second, .val (.int i)] [(.long (255 : Int64)), (.long ((d.toUInt64 >>> (((8 : Int32) * i) &&& 0x3f).toInt64.toUInt64).toInt64))])
  refine own_st (fun t_ k_ => XS.land X0.here hx rfl (hb hby d1_9) rfl k_) ?_
  show own_Go p e below _ s₁ (mkF m 10 #[.val (.long d), .second, .val (.int i)] [(.long (((d.toUInt64 >>> (((8 : Int32) * i) &&& 0x3f).toInt64.toUInt64).toInt64) &&& (255 : Int64)))])
  refine own_st (fun t_ k_ => XS.l2i X0.here hx rfl (hb hby d1_10) rfl k_) ?_
  show own_Go p e below _ s₁ (mkF m 11 #[.val (.long d), .second, .val (.int i)] [(.int ((((d.toUInt64 >>> (((8 : Int32) * i) &&& 0x3f).toInt64.toUInt64).toInt64) &&& (255 : Int64)).toInt32))])
  refine own_st (fun t_ k_ => XS.i2c X0.here hx rfl (hb hby d1_11) rfl k_) ?_
  show own_Go p e below _ s₁ (mkF m 12 #[.val (.long d), .second, .val (.int i)] [(.int (((((d.toUInt64 >>> (((8 : Int32) * i) &&& 0x3f).toInt64.toUInt64).toInt64) &&& (255 : Int64)).toInt32).toUInt32.toUInt16.toUInt32.toInt32))])
  refine own_retN X0 hx hlk (t := .char) Bd.returns (by simp) (hb hby d1_12) ?_ (by decide) (by decide)
  show QK h0 n0 _ s₁.heap _
  rw [e0]
  exact ⟨_, rfl, N0, rfl, own_pickL _⟩
def QNa (Z : State) (h0 : Heap) (n0 : Nat) (v : Option Value) (h : Heap) (L : List Loc) : Prop := ∃ cs : List Int32, cs.length ≤ 4000 ∧ QM Z cs h0 n0 v h L
theorem own_and3 (x : Int32) : x &&& (3 : Int32) = (0 : Int32) ∨ x &&& (3 : Int32) = (1 : Int32) ∨ x &&& (3 : Int32) = (2 : Int32) ∨ x &&& (3 : Int32) = (3 : Int32) := by
  have h := c_and x (3 : Int32) (by decide)
  have e : (3 : Int32).toInt = 3 := rfl
  have h3 : (x &&& (3 : Int32)).toInt = 0 ∨ (x &&& (3 : Int32)).toInt = 1 ∨ (x &&& (3 : Int32)).toInt = 2 ∨ (x &&& (3 : Int32)).toInt = 3 := by omega
  simp only [← Int32.toInt_inj]
  exact h3
theorem own_rem6 (a : Int32) : ((a.toUInt32 >>> ((5 : Int32) &&& 31).toUInt32).toInt32) % (6 : Int32) = (0 : Int32) ∨ ((a.toUInt32 >>> ((5 : Int32) &&& 31).toUInt32).toInt32) % (6 : Int32) = (1 : Int32) ∨ ((a.toUInt32 >>> ((5 : Int32) &&& 31).toUInt32).toInt32) % (6 : Int32) = (2 : Int32) ∨ ((a.toUInt32 >>> ((5 : Int32) &&& 31).toUInt32).toInt32) % (6 : Int32) = (3 : Int32) ∨ ((a.toUInt32 >>> ((5 : Int32) &&& 31).toUInt32).toInt32) % (6 : Int32) = (4 : Int32) ∨ ((a.toUInt32 >>> ((5 : Int32) &&& 31).toUInt32).toInt32) % (6 : Int32) = (5 : Int32) := by
  have h := c_iushr a (5 : Int32) 5 rfl (by decide)
  have r := rng32 a
  generalize ((a.toUInt32 >>> ((5 : Int32) &&& 31).toUInt32).toInt32) = y at h
  have h2 := (c_irem y 6 6 rfl).1 (by omega)
  have h3 : (y % (6 : Int32)).toInt = 0 ∨ (y % (6 : Int32)).toInt = 1 ∨ (y % (6 : Int32)).toInt = 2 ∨ (y % (6 : Int32)).toInt = 3 ∨ (y % (6 : Int32)).toInt = 4 ∨ (y % (6 : Int32)).toInt = 5 := by omega
  simp only [← Int32.toInt_inj]
  exact h3
theorem d2_0 : decode method_3_code 0 = .ok (.iload_n 0, 1) := by decide +kernel
theorem d2_1 : decode method_3_code 1 = .ok (.iconst 3, 1) := by decide +kernel
theorem d2_2 : decode method_3_code 2 = .ok (.iand, 1) := by decide +kernel
theorem d2_3 : decode method_3_code 3 = .ok (.istore_n 3, 1) := by decide +kernel
theorem d2_4 : decode method_3_code 4 = .ok (.iload_n 0, 1) := by decide +kernel
theorem d2_5 : decode method_3_code 5 = .ok (.iconst 2, 1) := by decide +kernel
theorem d2_6 : decode method_3_code 6 = .ok (.iushr, 1) := by decide +kernel
theorem d2_7 : decode method_3_code 7 = .ok (.iconst 1, 1) := by decide +kernel
theorem d2_8 : decode method_3_code 8 = .ok (.iand, 1) := by decide +kernel
theorem d2_9 : decode method_3_code 9 = .ok (.ifCond .ne 7, 3) := by decide +kernel
theorem d2_16 : decode method_3_code 16 = .ok (.iconst 0, 1) := by decide +kernel
theorem d2_12 : decode method_3_code 12 = .ok (.iconst 1, 1) := by decide +kernel
theorem d2_13 : decode method_3_code 13 = .ok (.goto 4, 3) := by decide +kernel
theorem d2_17 : decode method_3_code 17 = .ok (.istore 4, 2) := by decide +kernel
theorem d2_19 : decode method_3_code 19 = .ok (.iload_n 0, 1) := by decide +kernel
theorem d2_20 : decode method_3_code 20 = .ok (.iconst 5, 1) := by decide +kernel
theorem d2_21 : decode method_3_code 21 = .ok (.iushr, 1) := by decide +kernel
theorem d2_22 : decode method_3_code 22 = .ok (.bipush 6, 2) := by decide +kernel
theorem d2_24 : decode method_3_code 24 = .ok (.irem, 1) := by decide +kernel
theorem d2_25 : decode method_3_code 25 = .ok (.istore 5, 2) := by decide +kernel
theorem d2_27 : decode method_3_code 27 = .ok (.iload_n 3, 1) := by decide +kernel
theorem d2_28 : decode method_3_code 28 = .ok (.ifCond .eq 8, 3) := by decide +kernel
theorem d2_36 : decode method_3_code 36 = .ok (.iload 4, 2) := by decide +kernel
theorem d2_38 : decode method_3_code 38 = .ok (.ifCond .eq 64, 3) := by decide +kernel
theorem d2_102 : decode method_3_code 102 = .ok (.iconst 4, 1) := by decide +kernel
theorem d2_103 : decode method_3_code 103 = .ok (.newarray .char, 2) := by decide +kernel
theorem d2_105 : decode method_3_code 105 = .ok (.dup, 1) := by decide +kernel
theorem d2_106 : decode method_3_code 106 = .ok (.iconst 0, 1) := by decide +kernel
theorem d2_107 : decode method_3_code 107 = .ok (.bipush 77, 2) := by decide +kernel
theorem d2_109 : decode method_3_code 109 = .ok (.castore, 1) := by decide +kernel
theorem d2_110 : decode method_3_code 110 = .ok (.dup, 1) := by decide +kernel
theorem d2_111 : decode method_3_code 111 = .ok (.iconst 1, 1) := by decide +kernel
theorem d2_112 : decode method_3_code 112 = .ok (.bipush 81, 2) := by decide +kernel
theorem d2_114 : decode method_3_code 114 = .ok (.castore, 1) := by decide +kernel
theorem d2_115 : decode method_3_code 115 = .ok (.dup, 1) := by decide +kernel
theorem d2_116 : decode method_3_code 116 = .ok (.iconst 2, 1) := by decide +kernel
theorem d2_117 : decode method_3_code 117 = .ok (.bipush 84, 2) := by decide +kernel
theorem d2_119 : decode method_3_code 119 = .ok (.castore, 1) := by decide +kernel
theorem d2_120 : decode method_3_code 120 = .ok (.dup, 1) := by decide +kernel
theorem d2_121 : decode method_3_code 121 = .ok (.iconst 3, 1) := by decide +kernel
theorem d2_122 : decode method_3_code 122 = .ok (.bipush 84, 2) := by decide +kernel
theorem d2_124 : decode method_3_code 124 = .ok (.castore, 1) := by decide +kernel
theorem d2_125 : decode method_3_code 125 = .ok (.astore 6, 2) := by decide +kernel
theorem d2_127 : decode method_3_code 127 = .ok (.iload_n 3, 1) := by decide +kernel
theorem d2_128 : decode method_3_code 128 = .ok (.iconst 1, 1) := by decide +kernel
theorem d2_129 : decode method_3_code 129 = .ok (.if_icmp .ne 15, 3) := by decide +kernel
theorem d2_144 : decode method_3_code 144 = .ok (.new 15, 3) := by decide +kernel
theorem d2_147 : decode method_3_code 147 = .ok (.dup, 1) := by decide +kernel
theorem d2_148 : decode method_3_code 148 = .ok (.aload 6, 2) := by decide +kernel
theorem d2_150 : decode method_3_code 150 = .ok (.invokespecial 17, 3) := by decide +kernel
theorem pd_0 : parseMethodDescriptor "([C)V" = some ⟨[(.array .char)], none⟩ := by decide +kernel
theorem d2_153 : decode method_3_code 153 = .ok (.areturn, 1) := by decide +kernel
theorem d2_41 : decode method_3_code 41 = .ok (.bipush 6, 2) := by decide +kernel
theorem d2_43 : decode method_3_code 43 = .ok (.newarray .char, 2) := by decide +kernel
theorem d2_45 : decode method_3_code 45 = .ok (.dup, 1) := by decide +kernel
theorem d2_46 : decode method_3_code 46 = .ok (.iconst 0, 1) := by decide +kernel
theorem d2_47 : decode method_3_code 47 = .ok (.bipush 77, 2) := by decide +kernel
theorem d2_49 : decode method_3_code 49 = .ok (.castore, 1) := by decide +kernel
theorem d2_50 : decode method_3_code 50 = .ok (.dup, 1) := by decide +kernel
theorem d2_51 : decode method_3_code 51 = .ok (.iconst 1, 1) := by decide +kernel
theorem d2_52 : decode method_3_code 52 = .ok (.bipush 81, 2) := by decide +kernel
theorem d2_54 : decode method_3_code 54 = .ok (.castore, 1) := by decide +kernel
theorem d2_55 : decode method_3_code 55 = .ok (.dup, 1) := by decide +kernel
theorem d2_56 : decode method_3_code 56 = .ok (.iconst 2, 1) := by decide +kernel
theorem d2_57 : decode method_3_code 57 = .ok (.bipush 73, 2) := by decide +kernel
theorem d2_59 : decode method_3_code 59 = .ok (.castore, 1) := by decide +kernel
theorem d2_60 : decode method_3_code 60 = .ok (.dup, 1) := by decide +kernel
theorem d2_61 : decode method_3_code 61 = .ok (.iconst 3, 1) := by decide +kernel
theorem d2_62 : decode method_3_code 62 = .ok (.bipush 115, 2) := by decide +kernel
theorem d2_64 : decode method_3_code 64 = .ok (.castore, 1) := by decide +kernel
theorem d2_65 : decode method_3_code 65 = .ok (.dup, 1) := by decide +kernel
theorem d2_66 : decode method_3_code 66 = .ok (.iconst 4, 1) := by decide +kernel
theorem d2_67 : decode method_3_code 67 = .ok (.bipush 100, 2) := by decide +kernel
theorem d2_69 : decode method_3_code 69 = .ok (.castore, 1) := by decide +kernel
theorem d2_70 : decode method_3_code 70 = .ok (.dup, 1) := by decide +kernel
theorem d2_71 : decode method_3_code 71 = .ok (.iconst 5, 1) := by decide +kernel
theorem d2_72 : decode method_3_code 72 = .ok (.bipush 112, 2) := by decide +kernel
theorem d2_74 : decode method_3_code 74 = .ok (.castore, 1) := by decide +kernel
theorem d2_75 : decode method_3_code 75 = .ok (.astore 6, 2) := by decide +kernel
theorem d2_77 : decode method_3_code 77 = .ok (.iload_n 3, 1) := by decide +kernel
theorem d2_78 : decode method_3_code 78 = .ok (.iconst 1, 1) := by decide +kernel
theorem d2_79 : decode method_3_code 79 = .ok (.if_icmp .ne 13, 3) := by decide +kernel
theorem d2_92 : decode method_3_code 92 = .ok (.new 15, 3) := by decide +kernel
theorem d2_95 : decode method_3_code 95 = .ok (.dup, 1) := by decide +kernel
theorem d2_96 : decode method_3_code 96 = .ok (.aload 6, 2) := by decide +kernel
theorem d2_98 : decode method_3_code 98 = .ok (.invokespecial 17, 3) := by decide +kernel
theorem d2_101 : decode method_3_code 101 = .ok (.areturn, 1) := by decide +kernel
theorem d2_31 : decode method_3_code 31 = .ok (.iload_n 3, 1) := by decide +kernel
theorem d2_32 : decode method_3_code 32 = .ok (.iconst 1, 1) := by decide +kernel
theorem d2_33 : decode method_3_code 33 = .ok (.if_icmp .ne 121, 3) := by decide +kernel
theorem d2_132 : decode method_3_code 132 = .ok (.aload 6, 2) := by decide +kernel
theorem d2_134 : decode method_3_code 134 = .ok (.iload 5, 2) := by decide +kernel
theorem d2_136 : decode method_3_code 136 = .ok (.iconst 4, 1) := by decide +kernel
theorem d2_137 : decode method_3_code 137 = .ok (.irem, 1) := by decide +kernel
theorem d2_138 : decode method_3_code 138 = .ok (.lload_n 1, 1) := by decide +kernel
theorem d2_139 : decode method_3_code 139 = .ok (.iconst 0, 1) := by decide +kernel
theorem d2_140 : decode method_3_code 140 = .ok (.invokestatic 9, 3) := by decide +kernel
theorem pd_1 : parseMethodDescriptor "(JI)C" = some ⟨[.long, .int], some .char⟩ := by decide +kernel
theorem d2_143 : decode method_3_code 143 = .ok (.castore, 1) := by decide +kernel
theorem d2_82 : decode method_3_code 82 = .ok (.aload 6, 2) := by decide +kernel
theorem d2_84 : decode method_3_code 84 = .ok (.iload 5, 2) := by decide +kernel
theorem d2_86 : decode method_3_code 86 = .ok (.lload_n 1, 1) := by decide +kernel
theorem d2_87 : decode method_3_code 87 = .ok (.iconst 0, 1) := by decide +kernel
theorem d2_88 : decode method_3_code 88 = .ok (.invokestatic 9, 3) := by decide +kernel
theorem d2_91 : decode method_3_code 91 = .ok (.castore, 1) := by decide +kernel
theorem d2_154 : decode method_3_code 154 = .ok (.iload_n 3, 1) := by decide +kernel
theorem d2_155 : decode method_3_code 155 = .ok (.iconst 2, 1) := by decide +kernel
theorem d2_156 : decode method_3_code 156 = .ok (.if_icmp .ne 50, 3) := by decide +kernel
theorem d2_159 : decode method_3_code 159 = .ok (.iconst 4, 1) := by decide +kernel
theorem d2_160 : decode method_3_code 160 = .ok (.newarray .char, 2) := by decide +kernel
theorem d2_162 : decode method_3_code 162 = .ok (.dup, 1) := by decide +kernel
theorem d2_163 : decode method_3_code 163 = .ok (.iconst 0, 1) := by decide +kernel
theorem d2_164 : decode method_3_code 164 = .ok (.lload_n 1, 1) := by decide +kernel
theorem d2_165 : decode method_3_code 165 = .ok (.iconst 0, 1) := by decide +kernel
theorem d2_166 : decode method_3_code 166 = .ok (.invokestatic 9, 3) := by decide +kernel
theorem d2_169 : decode method_3_code 169 = .ok (.castore, 1) := by decide +kernel
theorem d2_170 : decode method_3_code 170 = .ok (.dup, 1) := by decide +kernel
theorem d2_171 : decode method_3_code 171 = .ok (.iconst 1, 1) := by decide +kernel
theorem d2_172 : decode method_3_code 172 = .ok (.lload_n 1, 1) := by decide +kernel
theorem d2_173 : decode method_3_code 173 = .ok (.iconst 1, 1) := by decide +kernel
theorem d2_174 : decode method_3_code 174 = .ok (.invokestatic 9, 3) := by decide +kernel
theorem d2_177 : decode method_3_code 177 = .ok (.castore, 1) := by decide +kernel
theorem d2_178 : decode method_3_code 178 = .ok (.dup, 1) := by decide +kernel
theorem d2_179 : decode method_3_code 179 = .ok (.iconst 2, 1) := by decide +kernel
theorem d2_180 : decode method_3_code 180 = .ok (.lload_n 1, 1) := by decide +kernel
theorem d2_181 : decode method_3_code 181 = .ok (.iconst 2, 1) := by decide +kernel
theorem d2_182 : decode method_3_code 182 = .ok (.invokestatic 9, 3) := by decide +kernel
theorem d2_185 : decode method_3_code 185 = .ok (.castore, 1) := by decide +kernel
theorem d2_186 : decode method_3_code 186 = .ok (.dup, 1) := by decide +kernel
theorem d2_187 : decode method_3_code 187 = .ok (.iconst 3, 1) := by decide +kernel
theorem d2_188 : decode method_3_code 188 = .ok (.lload_n 1, 1) := by decide +kernel
theorem d2_189 : decode method_3_code 189 = .ok (.iconst 3, 1) := by decide +kernel
theorem d2_190 : decode method_3_code 190 = .ok (.invokestatic 9, 3) := by decide +kernel
theorem d2_193 : decode method_3_code 193 = .ok (.castore, 1) := by decide +kernel
theorem d2_194 : decode method_3_code 194 = .ok (.astore 6, 2) := by decide +kernel
theorem d2_196 : decode method_3_code 196 = .ok (.new 15, 3) := by decide +kernel
theorem d2_199 : decode method_3_code 199 = .ok (.dup, 1) := by decide +kernel
theorem d2_200 : decode method_3_code 200 = .ok (.aload 6, 2) := by decide +kernel
theorem d2_202 : decode method_3_code 202 = .ok (.invokespecial 17, 3) := by decide +kernel
theorem d2_205 : decode method_3_code 205 = .ok (.areturn, 1) := by decide +kernel
theorem d2_206 : decode method_3_code 206 = .ok (.bipush 6, 2) := by decide +kernel
theorem d2_208 : decode method_3_code 208 = .ok (.newarray .char, 2) := by decide +kernel
theorem d2_210 : decode method_3_code 210 = .ok (.dup, 1) := by decide +kernel
theorem d2_211 : decode method_3_code 211 = .ok (.iconst 0, 1) := by decide +kernel
theorem d2_212 : decode method_3_code 212 = .ok (.lload_n 1, 1) := by decide +kernel
theorem d2_213 : decode method_3_code 213 = .ok (.iconst 0, 1) := by decide +kernel
theorem d2_214 : decode method_3_code 214 = .ok (.invokestatic 9, 3) := by decide +kernel
theorem d2_217 : decode method_3_code 217 = .ok (.castore, 1) := by decide +kernel
theorem d2_218 : decode method_3_code 218 = .ok (.dup, 1) := by decide +kernel
theorem d2_219 : decode method_3_code 219 = .ok (.iconst 1, 1) := by decide +kernel
theorem d2_220 : decode method_3_code 220 = .ok (.lload_n 1, 1) := by decide +kernel
theorem d2_221 : decode method_3_code 221 = .ok (.iconst 1, 1) := by decide +kernel
theorem d2_222 : decode method_3_code 222 = .ok (.invokestatic 9, 3) := by decide +kernel
theorem d2_225 : decode method_3_code 225 = .ok (.castore, 1) := by decide +kernel
theorem d2_226 : decode method_3_code 226 = .ok (.dup, 1) := by decide +kernel
theorem d2_227 : decode method_3_code 227 = .ok (.iconst 2, 1) := by decide +kernel
theorem d2_228 : decode method_3_code 228 = .ok (.lload_n 1, 1) := by decide +kernel
theorem d2_229 : decode method_3_code 229 = .ok (.iconst 2, 1) := by decide +kernel
theorem d2_230 : decode method_3_code 230 = .ok (.invokestatic 9, 3) := by decide +kernel
theorem d2_233 : decode method_3_code 233 = .ok (.castore, 1) := by decide +kernel
theorem d2_234 : decode method_3_code 234 = .ok (.dup, 1) := by decide +kernel
theorem d2_235 : decode method_3_code 235 = .ok (.iconst 3, 1) := by decide +kernel
theorem d2_236 : decode method_3_code 236 = .ok (.lload_n 1, 1) := by decide +kernel
theorem d2_237 : decode method_3_code 237 = .ok (.iconst 3, 1) := by decide +kernel
theorem d2_238 : decode method_3_code 238 = .ok (.invokestatic 9, 3) := by decide +kernel
theorem d2_241 : decode method_3_code 241 = .ok (.castore, 1) := by decide +kernel
theorem d2_242 : decode method_3_code 242 = .ok (.dup, 1) := by decide +kernel
theorem d2_243 : decode method_3_code 243 = .ok (.iconst 4, 1) := by decide +kernel
theorem d2_244 : decode method_3_code 244 = .ok (.lload_n 1, 1) := by decide +kernel
theorem d2_245 : decode method_3_code 245 = .ok (.iconst 4, 1) := by decide +kernel
theorem d2_246 : decode method_3_code 246 = .ok (.invokestatic 9, 3) := by decide +kernel
theorem d2_249 : decode method_3_code 249 = .ok (.castore, 1) := by decide +kernel
theorem d2_250 : decode method_3_code 250 = .ok (.dup, 1) := by decide +kernel
theorem d2_251 : decode method_3_code 251 = .ok (.iconst 5, 1) := by decide +kernel
theorem d2_252 : decode method_3_code 252 = .ok (.lload_n 1, 1) := by decide +kernel
theorem d2_253 : decode method_3_code 253 = .ok (.iconst 5, 1) := by decide +kernel
theorem d2_254 : decode method_3_code 254 = .ok (.invokestatic 9, 3) := by decide +kernel
theorem d2_257 : decode method_3_code 257 = .ok (.castore, 1) := by decide +kernel
theorem d2_258 : decode method_3_code 258 = .ok (.astore 6, 2) := by decide +kernel
theorem d2_260 : decode method_3_code 260 = .ok (.new 15, 3) := by decide +kernel
theorem d2_263 : decode method_3_code 263 = .ok (.dup, 1) := by decide +kernel
theorem d2_264 : decode method_3_code 264 = .ok (.aload 6, 2) := by decide +kernel
theorem d2_266 : decode method_3_code 266 = .ok (.invokespecial 17, 3) := by decide +kernel
theorem d2_269 : decode method_3_code 269 = .ok (.areturn, 1) := by decide +kernel
theorem ef_rmNA (m : MethodId) (x0 : Int32) (x1 : Int64) : entryFrame m #[(.int x0), (.long x1)] 7 = mkF m 0 #[.val (.int x0), .val (.long x1), .second, .unset, .unset, .unset, .unset] [] := by first | (simp [entryFrame, mkF, argsToLocals, Value.category]; done) | rfl
set_option maxRecDepth 65536 in
set_option maxHeartbeats 40000000 in
theorem rmNA (l : Launch) (Z : State) (a0 : Array Value) (hw : ∀ d ∈ tables_1, d.before a0 Z = true) (ws : List Jvm.Cond) (a : Int32) (d : Int64) (G : Int32) (h0 : Heap) (n0 : Nat) (Z0 : n0 ≤ h0.size) (SC : Sta Z Z.heap "java/lang/String" "COMPACT_STRINGS" "Z" (.int G)) (hCS : ¬ G = 0) (O0 : Old Z n0 h0) :
    MetFree l (⟨"com/example/lean_pubsub/leanpubsub/codec/ProtocolVersionFindPinLaw", "name", "(IJ)Ljava/lang/String;"⟩ : MethodName) (head1 (Jvm.Cond.code (⟨"com/example/lean_pubsub/leanpubsub/codec/ProtocolVersionFindPinLaw", "name", "(IJ)Ljava/lang/String;"⟩ : MethodName) method_3_code 7 (some (.object "java/lang/String")) :: ws) ({ frames := 4, cells := 3, slots := 16, locals := 66 } : Room)) (fun a_ U_ => a_ = #[(.int a), (.long d)] ∧ Z.Warmed39 U_.vm ∧ U_.heap = h0) (fun _ _ _ _ _ => True) (fun _ U_ o_ U'_ => ∃ v_ L_, o_ = .returned v_ ∧ QNa Z h0 n0 v_ U'_.heap L_ ∧ FrameEnd U_ o_ U'_ L_ ({ frames := 4, cells := 3, slots := 16, locals := 66 } : Room).cells ({ frames := 4, cells := 3, slots := 16, locals := 66 } : Room).slots) := by
  refine MetFree.of_bodySF (plainFor_of_name pn_0) hisR ?_
  intro p e s m args below meth c s₁ Bd hml0 hP hK
  obtain ⟨rfl, hZ, hh⟩ := hP
  have hx := Bd.exec
  have hby := Bd.bytes
  have hml : c.maxLocals = 7 := hml0
  have hown : s.vm.findClass "com/example/lean_pubsub/leanpubsub/codec/ProtocolVersionFindPinLaw" = some m.cls := findClass_of_methodNamed Bd.named
  have hnm := (name_of_methodNamed Bd.named Bd.method).1
  have hlk := BodyLoose.notSynchronized Bd
  have X0 : Stand p l e ({ frames := 4, cells := 3, slots := 16, locals := 66 } : Room) s m #[(.int a), (.long d)] below meth c s₁ [] 0 0 := Stand.of_body Bd
  have e0 : s₁.heap = h0 := by rw [← hh, Bd.state]; rfl
  have N0 := Fr.nil n0
  refine own_entry (P := own_End s (QNa Z h0 n0) ({ frames := 4, cells := 3, slots := 16, locals := 66 } : Room).cells ({ frames := 4, cells := 3, slots := 16, locals := 66 } : Room).slots) (ef_rmNA m a d) ?_
  show own_Go p e below _ s₁ (mkF m 0 #[.val (.int a), .val (.long d), .second, .unset, .unset, .unset, .unset] [])
  refine own_st (fun t_ k_ => XS.iloadN X0.here hx rfl (hb hby d2_0) rfl k_) ?_
  show own_Go p e below _ s₁ (mkF m 1 #[.val (.int a), .val (.long d), .second, .unset, .unset, .unset, .unset] [(.int a)])
  refine own_st (fun t_ k_ => XS.iconst X0.here hx rfl (hb hby d2_1) k_) ?_
  show own_Go p e below _ s₁ (mkF m 2 #[.val (.int a), .val (.long d), .second, .unset, .unset, .unset, .unset] [(.int (3 : Int32)), (.int a)])
  refine own_st (fun t_ k_ => XS.iand X0.here hx rfl (hb hby d2_2) rfl k_) ?_
  show own_Go p e below _ s₁ (mkF m 3 #[.val (.int a), .val (.long d), .second, .unset, .unset, .unset, .unset] [(.int (a &&& (3 : Int32)))])
  have d_kd : (a &&& (3 : Int32)) = (0 : Int32) ∨ (a &&& (3 : Int32)) = (1 : Int32) ∨ (a &&& (3 : Int32)) = (2 : Int32) ∨ (a &&& (3 : Int32)) = (3 : Int32) := own_and3 _
  generalize h_kd : (a &&& (3 : Int32)) = kd at d_kd ⊢
  show own_Go p e below _ s₁ (mkF m 3 #[.val (.int a), .val (.long d), .second, .unset, .unset, .unset, .unset] [(.int kd)])
  refine own_st (fun t_ k_ => XS.istoreN X0.here hx rfl (hb hby d2_3) rfl (l' := #[.val (.int a), .val (.long d), .second, .val (.int kd), .unset, .unset, .unset]) rfl k_) ?_
  show own_Go p e below _ s₁ (mkF m 4 #[.val (.int a), .val (.long d), .second, .val (.int kd), .unset, .unset, .unset] [])
  refine own_st (fun t_ k_ => XS.iloadN X0.here hx rfl (hb hby d2_4) rfl k_) ?_
  show own_Go p e below _ s₁ (mkF m 5 #[.val (.int a), .val (.long d), .second, .val (.int kd), .unset, .unset, .unset] [(.int a)])
  refine own_st (fun t_ k_ => XS.iconst X0.here hx rfl (hb hby d2_5) k_) ?_
  show own_Go p e below _ s₁ (mkF m 6 #[.val (.int a), .val (.long d), .second, .val (.int kd), .unset, .unset, .unset] [(.int (2 : Int32)), (.int a)])
  refine own_st (fun t_ k_ => XS.iushr X0.here hx rfl (hb hby d2_6) rfl k_) ?_
  show own_Go p e below _ s₁ (mkF m 7 #[.val (.int a), .val (.long d), .second, .val (.int kd), .unset, .unset, .unset] [(.int ((a.toUInt32 >>> ((2 : Int32) &&& 31).toUInt32).toInt32))])
  refine own_st (fun t_ k_ => XS.iconst X0.here hx rfl (hb hby d2_7) k_) ?_
  show own_Go p e below _ s₁ (mkF m 8 #[.val (.int a), .val (.long d), .second, .val (.int kd), .unset, .unset, .unset] [(.int (1 : Int32)), (.int ((a.toUInt32 >>> ((2 : Int32) &&& 31).toUInt32).toInt32))])
  refine own_st (fun t_ k_ => XS.iand X0.here hx rfl (hb hby d2_8) rfl k_) ?_
  show own_Go p e below _ s₁ (mkF m 9 #[.val (.int a), .val (.long d), .second, .val (.int kd), .unset, .unset, .unset] [(.int (((a.toUInt32 >>> ((2 : Int32) &&& 31).toUInt32).toInt32) &&& (1 : Int32)))])
  refine own_join (α := Int32) (F := fun b4 => b4 = (0 : Int32) ∨ b4 = (1 : Int32)) (T' := s₁) (g' := fun b4 => (mkF m 17 #[.val (.int a), .val (.long d), .second, .val (.int kd), .unset, .unset, .unset] [(.int b4)])) (fun b4 h_b4 => ?_) (fun J_b4 => ?_)
  · show own_Go p e below _ s₁ (mkF m 17 #[.val (.int a), .val (.long d), .second, .val (.int kd), .unset, .unset, .unset] [(.int b4)])
    refine own_st (fun t_ k_ => XS.istore X0.here hx rfl (hb hby d2_17) rfl (l' := #[.val (.int a), .val (.long d), .second, .val (.int kd), .val (.int b4), .unset, .unset]) rfl k_) ?_
    show own_Go p e below _ s₁ (mkF m 19 #[.val (.int a), .val (.long d), .second, .val (.int kd), .val (.int b4), .unset, .unset] [])
    refine own_st (fun t_ k_ => XS.iloadN X0.here hx rfl (hb hby d2_19) rfl k_) ?_
    show own_Go p e below _ s₁ (mkF m 20 #[.val (.int a), .val (.long d), .second, .val (.int kd), .val (.int b4), .unset, .unset] [(.int a)])
    refine own_st (fun t_ k_ => XS.iconst X0.here hx rfl (hb hby d2_20) k_) ?_
    show own_Go p e below _ s₁ (mkF m 21 #[.val (.int a), .val (.long d), .second, .val (.int kd), .val (.int b4), .unset, .unset] [(.int (5 : Int32)), (.int a)])
    refine own_st (fun t_ k_ => XS.iushr X0.here hx rfl (hb hby d2_21) rfl k_) ?_
    show own_Go p e below _ s₁ (mkF m 22 #[.val (.int a), .val (.long d), .second, .val (.int kd), .val (.int b4), .unset, .unset] [(.int ((a.toUInt32 >>> ((5 : Int32) &&& 31).toUInt32).toInt32))])
    refine own_st (fun t_ k_ => XS.bipush X0.here hx rfl (hb hby d2_22) k_) ?_
    show own_Go p e below _ s₁ (mkF m 24 #[.val (.int a), .val (.long d), .second, .val (.int kd), .val (.int b4), .unset, .unset] [(.int (6 : Int32)), (.int ((a.toUInt32 >>> ((5 : Int32) &&& 31).toUInt32).toInt32))])
    refine own_st (fun t_ k_ => Jvm.RoadKit.iremM (g := (mkF m 24 #[.val (.int a), .val (.long d), .second, .val (.int kd), .val (.int b4), .unset, .unset] [(.int (6 : Int32)), (.int ((a.toUInt32 >>> ((5 : Int32) &&& 31).toUInt32).toInt32))])) X0 hx rfl (hb hby d2_24) rfl (by decide) k_) ?_
    show own_Go p e below _ s₁ (mkF m 25 #[.val (.int a), .val (.long d), .second, .val (.int kd), .val (.int b4), .unset, .unset] [(.int (((a.toUInt32 >>> ((5 : Int32) &&& 31).toUInt32).toInt32) % (6 : Int32)))])
    have d_ps : (((a.toUInt32 >>> ((5 : Int32) &&& 31).toUInt32).toInt32) % (6 : Int32)) = (0 : Int32) ∨ (((a.toUInt32 >>> ((5 : Int32) &&& 31).toUInt32).toInt32) % (6 : Int32)) = (1 : Int32) ∨ (((a.toUInt32 >>> ((5 : Int32) &&& 31).toUInt32).toInt32) % (6 : Int32)) = (2 : Int32) ∨ (((a.toUInt32 >>> ((5 : Int32) &&& 31).toUInt32).toInt32) % (6 : Int32)) = (3 : Int32) ∨ (((a.toUInt32 >>> ((5 : Int32) &&& 31).toUInt32).toInt32) % (6 : Int32)) = (4 : Int32) ∨ (((a.toUInt32 >>> ((5 : Int32) &&& 31).toUInt32).toInt32) % (6 : Int32)) = (5 : Int32) := own_rem6 _
    generalize h_ps : (((a.toUInt32 >>> ((5 : Int32) &&& 31).toUInt32).toInt32) % (6 : Int32)) = ps at d_ps ⊢
    show own_Go p e below _ s₁ (mkF m 25 #[.val (.int a), .val (.long d), .second, .val (.int kd), .val (.int b4), .unset, .unset] [(.int ps)])
    refine own_st (fun t_ k_ => XS.istore X0.here hx rfl (hb hby d2_25) rfl (l' := #[.val (.int a), .val (.long d), .second, .val (.int kd), .val (.int b4), .val (.int ps), .unset]) rfl k_) ?_
    show own_Go p e below _ s₁ (mkF m 27 #[.val (.int a), .val (.long d), .second, .val (.int kd), .val (.int b4), .val (.int ps), .unset] [])
    refine own_st (fun t_ k_ => XS.iloadN X0.here hx rfl (hb hby d2_27) rfl k_) ?_
    show own_Go p e below _ s₁ (mkF m 28 #[.val (.int a), .val (.long d), .second, .val (.int kd), .val (.int b4), .val (.int ps), .unset] [(.int kd)])
    rcases (d_kd : kd = (0 : Int32) ∨ kd = (1 : Int32) ∨ kd = (2 : Int32) ∨ kd = (3 : Int32)) with rfl | rfl | rfl | rfl
    · show own_Go p e below _ s₁ (mkF m 28 #[.val (.int a), .val (.long d), .second, .val (.int (0 : Int32)), .val (.int b4), .val (.int ps), .unset] [(.int (0 : Int32))])
      refine own_st (fun t_ k_ => XS.ifYes X0.here hx rfl (pc0 := 28) (pc' := 36) rfl (hb hby d2_28) rfl (by decide) (by decide) (by decide) k_) ?_
      show own_Go p e below _ s₁ (mkF m 36 #[.val (.int a), .val (.long d), .second, .val (.int (0 : Int32)), .val (.int b4), .val (.int ps), .unset] [])
      refine own_st (fun t_ k_ => XS.iload X0.here hx rfl (hb hby d2_36) rfl k_) ?_
      show own_Go p e below _ s₁ (mkF m 38 #[.val (.int a), .val (.long d), .second, .val (.int (0 : Int32)), .val (.int b4), .val (.int ps), .unset] [(.int b4)])
      rcases (h_b4 : b4 = (0 : Int32) ∨ b4 = (1 : Int32)) with rfl | rfl
      · show own_Go p e below _ s₁ (mkF m 38 #[.val (.int a), .val (.long d), .second, .val (.int (0 : Int32)), .val (.int (0 : Int32)), .val (.int ps), .unset] [(.int (0 : Int32))])
        refine own_st (fun t_ k_ => XS.ifYes X0.here hx rfl (pc0 := 38) (pc' := 102) rfl (hb hby d2_38) rfl (by decide) (by decide) (by decide) k_) ?_
        show own_Go p e below _ s₁ (mkF m 102 #[.val (.int a), .val (.long d), .second, .val (.int (0 : Int32)), .val (.int (0 : Int32)), .val (.int ps), .unset] [])
        refine own_st (fun t_ k_ => XS.iconst X0.here hx rfl (hb hby d2_102) k_) ?_
        show own_Go p e below _ s₁ (mkF m 103 #[.val (.int a), .val (.long d), .second, .val (.int (0 : Int32)), .val (.int (0 : Int32)), .val (.int ps), .unset] [(.int (4 : Int32))])
        obtain ⟨T2, h2, k2, X2, e2, E2, A2, st2⟩ := newP X0 hx hZ (hw _ (List.mem_of_getElem? (i := 4) rfl)) e0 (g := (mkF m 103 #[.val (.int a), .val (.long d), .second, .val (.int (0 : Int32)), .val (.int (0 : Int32)), .val (.int ps), .unset] [(.int (4 : Int32))])) rfl (hb hby d2_103) rfl (by decide) (cap := 4) (by decide) (by decide) (by decide) (by decide)
        obtain ⟨nb2, g2⟩ : ∃ z, z = h0.size := ⟨_, rfl⟩
        rw [← g2] at A2 st2
        refine own_st st2 ?_
        have g_nb2 : n0 ≤ nb2 := Nat.le_trans (Nat.le_trans Z0 (Keep.refl h0 []).1) (Nat.le_of_eq g2.symm)
        have K2 : Keep h0 h2 [] := (Keep.refl h0 []).ext E2
        have sz_nb2 : h0.size ≤ nb2 := Nat.le_trans (Keep.refl h0 []).1 (Nat.le_of_eq g2.symm)
        have V2 : Arv Z h2 nb2 k2 .char (4 : Int32) [(.int (0 : Int32)), (.int (0 : Int32)), (.int (0 : Int32)), (.int (0 : Int32))] (.int (0 : Int32)) := (Arv.new A2 (by decide)).pad (pad_rep [] (.int (0 : Int32)) 4)
        show own_Go p e below _ T2 (mkF m 105 #[.val (.int a), .val (.long d), .second, .val (.int (0 : Int32)), .val (.int (0 : Int32)), .val (.int ps), .unset] [(.ref nb2)])
        refine own_st (fun t_ k_ => XS.dup X2.here hx rfl (hb hby d2_105) rfl rfl k_) ?_
        show own_Go p e below _ T2 (mkF m 106 #[.val (.int a), .val (.long d), .second, .val (.int (0 : Int32)), .val (.int (0 : Int32)), .val (.int ps), .unset] [(.ref nb2), (.ref nb2)])
        refine own_st (fun t_ k_ => XS.iconst X2.here hx rfl (hb hby d2_106) k_) ?_
        show own_Go p e below _ T2 (mkF m 107 #[.val (.int a), .val (.long d), .second, .val (.int (0 : Int32)), .val (.int (0 : Int32)), .val (.int ps), .unset] [(.int (0 : Int32)), (.ref nb2), (.ref nb2)])
        refine own_st (fun t_ k_ => XS.bipush X2.here hx rfl (hb hby d2_107) k_) ?_
        show own_Go p e below _ T2 (mkF m 109 #[.val (.int a), .val (.long d), .second, .val (.int (0 : Int32)), .val (.int (0 : Int32)), .val (.int ps), .unset] [(.int (77 : Int32)), (.int (0 : Int32)), (.ref nb2), (.ref nb2)])
        obtain ⟨cl3, Ar3, q3, S3, N3', H3, G3⟩ := id V2
        have hin3 : ¬ ((0 : Int32) < 0 ∨ cl3.slots.size ≤ ((0 : Int32)).toNatClampNeg) := inb_of S3 ⟨by decide, by decide⟩
        obtain ⟨T3, h3, X3, e3, W3, st3⟩ := stC X2 hx hZ e2 Ar3 (j := (0 : Int32)) hin3 (g := (mkF m 109 #[.val (.int a), .val (.long d), .second, .val (.int (0 : Int32)), .val (.int (0 : Int32)), .val (.int ps), .unset] [(.int (77 : Int32)), (.int (0 : Int32)), (.ref nb2), (.ref nb2)])) rfl rfl (hb hby d2_109)
        have V3 : Arv Z h3 nb2 k2 .char (4 : Int32) [(.int (77 : Int32)), (.int (0 : Int32)), (.int (0 : Int32)), (.int (0 : Int32))] (.int (0 : Int32)) := Arv.set Ar3 q3 S3 N3' H3 G3 (fits_nar_char _) W3 0 rfl (Nat.le_of_ble_eq_true rfl)
        refine own_st st3 ?_
        have N3 := Fr.snoc X3 N0 g_nb2
        have K3 : Keep h0 h3 [] := K2.wr W3 (Or.inr sz_nb2)
        show own_Go p e below _ T3 (mkF m 110 #[.val (.int a), .val (.long d), .second, .val (.int (0 : Int32)), .val (.int (0 : Int32)), .val (.int ps), .unset] [(.ref nb2)])
        refine own_st (fun t_ k_ => XS.dup X3.here hx rfl (hb hby d2_110) rfl rfl k_) ?_
        show own_Go p e below _ T3 (mkF m 111 #[.val (.int a), .val (.long d), .second, .val (.int (0 : Int32)), .val (.int (0 : Int32)), .val (.int ps), .unset] [(.ref nb2), (.ref nb2)])
        refine own_st (fun t_ k_ => XS.iconst X3.here hx rfl (hb hby d2_111) k_) ?_
        show own_Go p e below _ T3 (mkF m 112 #[.val (.int a), .val (.long d), .second, .val (.int (0 : Int32)), .val (.int (0 : Int32)), .val (.int ps), .unset] [(.int (1 : Int32)), (.ref nb2), (.ref nb2)])
        refine own_st (fun t_ k_ => XS.bipush X3.here hx rfl (hb hby d2_112) k_) ?_
        show own_Go p e below _ T3 (mkF m 114 #[.val (.int a), .val (.long d), .second, .val (.int (0 : Int32)), .val (.int (0 : Int32)), .val (.int ps), .unset] [(.int (81 : Int32)), (.int (1 : Int32)), (.ref nb2), (.ref nb2)])
        obtain ⟨cl4, Ar4, q4, S4, N4', H4, G4⟩ := id V3
        have hin4 : ¬ ((1 : Int32) < 0 ∨ cl4.slots.size ≤ ((1 : Int32)).toNatClampNeg) := inb_of S4 ⟨by decide, by decide⟩
        obtain ⟨T4, h4, X4, e4, W4, st4⟩ := stC X3 hx hZ e3 Ar4 (j := (1 : Int32)) hin4 (g := (mkF m 114 #[.val (.int a), .val (.long d), .second, .val (.int (0 : Int32)), .val (.int (0 : Int32)), .val (.int ps), .unset] [(.int (81 : Int32)), (.int (1 : Int32)), (.ref nb2), (.ref nb2)])) rfl rfl (hb hby d2_114)
        have V4 : Arv Z h4 nb2 k2 .char (4 : Int32) [(.int (77 : Int32)), (.int (81 : Int32)), (.int (0 : Int32)), (.int (0 : Int32))] (.int (0 : Int32)) := Arv.set Ar4 q4 S4 N4' H4 G4 (fits_nar_char _) W4 1 rfl (Nat.le_of_ble_eq_true rfl)
        refine own_st st4 ?_
        have N4 := Fr.snoc X4 N3 g_nb2
        have K4 : Keep h0 h4 [] := K3.wr W4 (Or.inr sz_nb2)
        show own_Go p e below _ T4 (mkF m 115 #[.val (.int a), .val (.long d), .second, .val (.int (0 : Int32)), .val (.int (0 : Int32)), .val (.int ps), .unset] [(.ref nb2)])
        refine own_st (fun t_ k_ => XS.dup X4.here hx rfl (hb hby d2_115) rfl rfl k_) ?_
        show own_Go p e below _ T4 (mkF m 116 #[.val (.int a), .val (.long d), .second, .val (.int (0 : Int32)), .val (.int (0 : Int32)), .val (.int ps), .unset] [(.ref nb2), (.ref nb2)])
        refine own_st (fun t_ k_ => XS.iconst X4.here hx rfl (hb hby d2_116) k_) ?_
        show own_Go p e below _ T4 (mkF m 117 #[.val (.int a), .val (.long d), .second, .val (.int (0 : Int32)), .val (.int (0 : Int32)), .val (.int ps), .unset] [(.int (2 : Int32)), (.ref nb2), (.ref nb2)])
        refine own_st (fun t_ k_ => XS.bipush X4.here hx rfl (hb hby d2_117) k_) ?_
        show own_Go p e below _ T4 (mkF m 119 #[.val (.int a), .val (.long d), .second, .val (.int (0 : Int32)), .val (.int (0 : Int32)), .val (.int ps), .unset] [(.int (84 : Int32)), (.int (2 : Int32)), (.ref nb2), (.ref nb2)])
        obtain ⟨cl5, Ar5, q5, S5, N5', H5, G5⟩ := id V4
        have hin5 : ¬ ((2 : Int32) < 0 ∨ cl5.slots.size ≤ ((2 : Int32)).toNatClampNeg) := inb_of S5 ⟨by decide, by decide⟩
        obtain ⟨T5, h5, X5, e5, W5, st5⟩ := stC X4 hx hZ e4 Ar5 (j := (2 : Int32)) hin5 (g := (mkF m 119 #[.val (.int a), .val (.long d), .second, .val (.int (0 : Int32)), .val (.int (0 : Int32)), .val (.int ps), .unset] [(.int (84 : Int32)), (.int (2 : Int32)), (.ref nb2), (.ref nb2)])) rfl rfl (hb hby d2_119)
        have V5 : Arv Z h5 nb2 k2 .char (4 : Int32) [(.int (77 : Int32)), (.int (81 : Int32)), (.int (84 : Int32)), (.int (0 : Int32))] (.int (0 : Int32)) := Arv.set Ar5 q5 S5 N5' H5 G5 (fits_nar_char _) W5 2 rfl (Nat.le_of_ble_eq_true rfl)
        refine own_st st5 ?_
        have N5 := Fr.snoc X5 N4 g_nb2
        have K5 : Keep h0 h5 [] := K4.wr W5 (Or.inr sz_nb2)
        show own_Go p e below _ T5 (mkF m 120 #[.val (.int a), .val (.long d), .second, .val (.int (0 : Int32)), .val (.int (0 : Int32)), .val (.int ps), .unset] [(.ref nb2)])
        refine own_st (fun t_ k_ => XS.dup X5.here hx rfl (hb hby d2_120) rfl rfl k_) ?_
        show own_Go p e below _ T5 (mkF m 121 #[.val (.int a), .val (.long d), .second, .val (.int (0 : Int32)), .val (.int (0 : Int32)), .val (.int ps), .unset] [(.ref nb2), (.ref nb2)])
        refine own_st (fun t_ k_ => XS.iconst X5.here hx rfl (hb hby d2_121) k_) ?_
        show own_Go p e below _ T5 (mkF m 122 #[.val (.int a), .val (.long d), .second, .val (.int (0 : Int32)), .val (.int (0 : Int32)), .val (.int ps), .unset] [(.int (3 : Int32)), (.ref nb2), (.ref nb2)])
        refine own_st (fun t_ k_ => XS.bipush X5.here hx rfl (hb hby d2_122) k_) ?_
        show own_Go p e below _ T5 (mkF m 124 #[.val (.int a), .val (.long d), .second, .val (.int (0 : Int32)), .val (.int (0 : Int32)), .val (.int ps), .unset] [(.int (84 : Int32)), (.int (3 : Int32)), (.ref nb2), (.ref nb2)])
        obtain ⟨cl6, Ar6, q6, S6, N6', H6, G6⟩ := id V5
        have hin6 : ¬ ((3 : Int32) < 0 ∨ cl6.slots.size ≤ ((3 : Int32)).toNatClampNeg) := inb_of S6 ⟨by decide, by decide⟩
        obtain ⟨T6, h6, X6, e6, W6, st6⟩ := stC X5 hx hZ e5 Ar6 (j := (3 : Int32)) hin6 (g := (mkF m 124 #[.val (.int a), .val (.long d), .second, .val (.int (0 : Int32)), .val (.int (0 : Int32)), .val (.int ps), .unset] [(.int (84 : Int32)), (.int (3 : Int32)), (.ref nb2), (.ref nb2)])) rfl rfl (hb hby d2_124)
        have V6 : Arv Z h6 nb2 k2 .char (4 : Int32) [(.int (77 : Int32)), (.int (81 : Int32)), (.int (84 : Int32)), (.int (84 : Int32))] (.int (0 : Int32)) := Arv.set Ar6 q6 S6 N6' H6 G6 (fits_nar_char _) W6 3 rfl (Nat.le_of_ble_eq_true rfl)
        refine own_st st6 ?_
        have N6 := Fr.snoc X6 N5 g_nb2
        have K6 : Keep h0 h6 [] := K5.wr W6 (Or.inr sz_nb2)
        show own_Go p e below _ T6 (mkF m 125 #[.val (.int a), .val (.long d), .second, .val (.int (0 : Int32)), .val (.int (0 : Int32)), .val (.int ps), .unset] [(.ref nb2)])
        refine own_st (fun t_ k_ => XS.astore X6.here hx rfl (hb hby d2_125) rfl rfl (l' := #[.val (.int a), .val (.long d), .second, .val (.int (0 : Int32)), .val (.int (0 : Int32)), .val (.int ps), .val (.ref nb2)]) rfl k_) ?_
        show own_Go p e below _ T6 (mkF m 127 #[.val (.int a), .val (.long d), .second, .val (.int (0 : Int32)), .val (.int (0 : Int32)), .val (.int ps), .val (.ref nb2)] [])
        refine own_st (fun t_ k_ => XS.iloadN X6.here hx rfl (hb hby d2_127) rfl k_) ?_
        show own_Go p e below _ T6 (mkF m 128 #[.val (.int a), .val (.long d), .second, .val (.int (0 : Int32)), .val (.int (0 : Int32)), .val (.int ps), .val (.ref nb2)] [(.int (0 : Int32))])
        refine own_st (fun t_ k_ => XS.iconst X6.here hx rfl (hb hby d2_128) k_) ?_
        show own_Go p e below _ T6 (mkF m 129 #[.val (.int a), .val (.long d), .second, .val (.int (0 : Int32)), .val (.int (0 : Int32)), .val (.int ps), .val (.ref nb2)] [(.int (1 : Int32)), (.int (0 : Int32))])
        refine own_st (fun t_ k_ => XS.icmpYes X6.here hx rfl (pc0 := 129) (pc' := 144) rfl (hb hby d2_129) rfl (by decide) (by decide) (by decide) k_) ?_
        show own_Go p e below _ T6 (mkF m 144 #[.val (.int a), .val (.long d), .second, .val (.int (0 : Int32)), .val (.int (0 : Int32)), .val (.int ps), .val (.ref nb2)] [])
        obtain ⟨T7, h7, X7, e7, E7, A7, D7, cel7, st7⟩ := newO X6 hx hZ hown (hw _ (List.mem_of_getElem? (i := 5) rfl)) (hw _ (List.mem_of_getElem? (i := 6) rfl)) (hw _ (List.mem_of_getElem? (i := 7) rfl)) e6 (g := (mkF m 144 #[.val (.int a), .val (.long d), .second, .val (.int (0 : Int32)), .val (.int (0 : Int32)), .val (.int ps), .val (.ref nb2)] [])) rfl (hb hby d2_144) (by decide) (by decide)
        obtain ⟨nb7, g7⟩ : ∃ z, z = h6.size := ⟨_, rfl⟩
        rw [← g7] at A7 D7 cel7 st7
        refine own_st st7 ?_
        have g_nb7 : n0 ≤ nb7 := Nat.le_trans (Nat.le_trans Z0 K6.1) (Nat.le_of_eq g7.symm)
        have K7 : Keep h0 h7 [] := K6.ext E7
        have sz_nb7 : h0.size ≤ nb7 := Nat.le_trans K6.1 (Nat.le_of_eq g7.symm)
        have F7_coder : Fld Z h7 nb7 "java/lang/String" "coder" "B" (.int (0 : Int32)) := D7 (Or.inr (hw _ (List.mem_of_getElem? (i := 31) rfl))) (ty := .byte) (by decide)
        have F7_value : Fld Z h7 nb7 "java/lang/String" "value" "[B" .null := D7 (Or.inr (hw _ (List.mem_of_getElem? (i := 33) rfl))) (ty := (.array .byte)) (by decide)
        show own_Go p e below _ T7 (mkF m 147 #[.val (.int a), .val (.long d), .second, .val (.int (0 : Int32)), .val (.int (0 : Int32)), .val (.int ps), .val (.ref nb2)] [(.ref nb7)])
        refine own_st (fun t_ k_ => XS.dup X7.here hx rfl (hb hby d2_147) rfl rfl k_) ?_
        show own_Go p e below _ T7 (mkF m 148 #[.val (.int a), .val (.long d), .second, .val (.int (0 : Int32)), .val (.int (0 : Int32)), .val (.int ps), .val (.ref nb2)] [(.ref nb7), (.ref nb7)])
        refine own_st (fun t_ k_ => XS.aload X7.here hx rfl (hb hby d2_148) rfl rfl k_) ?_
        show own_Go p e below _ T7 (mkF m 150 #[.val (.int a), .val (.long d), .second, .val (.int (0 : Int32)), .val (.int (0 : Int32)), .val (.int ps), .val (.ref nb2)] [(.ref nb2), (.ref nb7), (.ref nb7)])
        have hp8 : ∀ c ∈ ([(77 : Int32), (81 : Int32), (84 : Int32), (84 : Int32)] : List Int32), ¬ c < 0 ∧ ¬ (255 : Int32) < c := (own_lcons ⟨by decide, by decide⟩ (own_lcons ⟨by decide, by decide⟩ (own_lcons ⟨by decide, by decide⟩ (own_lcons ⟨by decide, by decide⟩ own_lnil))))
        have f9 := (V6.ext E7)
        have f10 := (O0.ext E2)
        have f11 := (f10.wr W3 g_nb2)
        have f12 := (f11.wr W4 g_nb2)
        have f13 := (f12.wr W5 g_nb2)
        have f14 := (f13.wr W6 g_nb2)
        have f15 := (f14.ext E7)
        refine own_callN X7 hx (y := (⟨"java/lang/String", "<init>", "([C)V"⟩ : MethodName)) rfl hown (mvT hZ (hw _ (List.mem_of_getElem? (i := 8) rfl))) (mvT hZ (hw _ (List.mem_of_getElem? (i := 9) rfl))) (mvT hZ (hw _ (List.mem_of_getElem? (i := 10) rfl))) (by decide) (StrChars.Road.backV (W := 1) hZ (own_words hw) (kI := 4) (hw _ (List.mem_of_getElem? (i := 6) rfl)) (cs := ([(77 : Int32), (81 : Int32), (84 : Int32), (84 : Int32)] : List Int32)) (bs := ([(77 : Int32), (81 : Int32), (84 : Int32), (84 : Int32)] : List Int32).map (fun c => c.toInt8.toInt32)) (n := 4) g_nb7 (Nat.le_trans Z0 K7.1) A7 F7_value F7_coder f9 (Sta.ext f15.2 SC) hCS rfl rfl (by decide) (by decide) hp8 rfl (by decide) (by decide)) (a := nb7) (g := (mkF m 150 #[.val (.int a), .val (.long d), .second, .val (.int (0 : Int32)), .val (.int (0 : Int32)), .val (.int ps), .val (.ref nb2)] [(.ref nb2), (.ref nb7), (.ref nb7)])) rfl (by rw [hml]; rfl) (argsL := [(.ref nb2)]) (rest := [(.ref nb7)]) (lenOf pd_0 rfl) rfl (by show 2 * 0 + _ ≤ _; exact Nat.le_of_eq rfl) (hb hby d2_150) rfl e7 (by decide) (by decide) ?_
        rintro v8 T8 L8 X8 ⟨rfl, Nq8, Kq8, Eq8, Cq8, t8, kb8, g_t8, gt8, nt8, Vq8, Aq8⟩
        have sz_t8 : h0.size ≤ t8 := Nat.le_trans K7.1 gt8
        have N8 := Fr.app N6 Nq8
        have K8 : Keep h0 T8.heap [] := K7.trans Kq8 (allS (Or.inr sz_nb7) all0)
        show own_Go p e below _ T8 (mkF m 153 #[.val (.int a), .val (.long d), .second, .val (.int (0 : Int32)), .val (.int (0 : Int32)), .val (.int ps), .val (.ref nb2)] [(.ref nb7)])
        refine own_retA X8 hx hlk Bd.returns rfl rfl (hb hby d2_153) ?_ (by decide) (by decide)
        show QNa Z h0 n0 _ T8.heap _
        exact ⟨([(77 : Int32), (81 : Int32), (84 : Int32), (84 : Int32)] : List Int32), Nat.le_of_ble_eq_true rfl, nb7, t8, kb8, rfl, N8, K8, sz_nb7, g_nb7, nt8, Eq8, Cq8, Vq8, Aq8, hp8⟩
      · show own_Go p e below _ s₁ (mkF m 38 #[.val (.int a), .val (.long d), .second, .val (.int (0 : Int32)), .val (.int (1 : Int32)), .val (.int ps), .unset] [(.int (1 : Int32))])
        refine own_st (fun t_ k_ => XS.ifNo X0.here hx rfl (hb hby d2_38) rfl (by decide) k_) ?_
        show own_Go p e below _ s₁ (mkF m 41 #[.val (.int a), .val (.long d), .second, .val (.int (0 : Int32)), .val (.int (1 : Int32)), .val (.int ps), .unset] [])
        refine own_st (fun t_ k_ => XS.bipush X0.here hx rfl (hb hby d2_41) k_) ?_
        show own_Go p e below _ s₁ (mkF m 43 #[.val (.int a), .val (.long d), .second, .val (.int (0 : Int32)), .val (.int (1 : Int32)), .val (.int ps), .unset] [(.int (6 : Int32))])
        obtain ⟨T16, h16, k16, X16, e16, E16, A16, st16⟩ := newP X0 hx hZ (hw _ (List.mem_of_getElem? (i := 4) rfl)) e0 (g := (mkF m 43 #[.val (.int a), .val (.long d), .second, .val (.int (0 : Int32)), .val (.int (1 : Int32)), .val (.int ps), .unset] [(.int (6 : Int32))])) rfl (hb hby d2_43) rfl (by decide) (cap := 6) (by decide) (by decide) (by decide) (by decide)
        obtain ⟨nb16, g16⟩ : ∃ z, z = h0.size := ⟨_, rfl⟩
        rw [← g16] at A16 st16
        refine own_st st16 ?_
        have g_nb16 : n0 ≤ nb16 := Nat.le_trans (Nat.le_trans Z0 (Keep.refl h0 []).1) (Nat.le_of_eq g16.symm)
        have K16 : Keep h0 h16 [] := (Keep.refl h0 []).ext E16
        have sz_nb16 : h0.size ≤ nb16 := Nat.le_trans (Keep.refl h0 []).1 (Nat.le_of_eq g16.symm)
        have V16 : Arv Z h16 nb16 k16 .char (6 : Int32) [(.int (0 : Int32)), (.int (0 : Int32)), (.int (0 : Int32)), (.int (0 : Int32)), (.int (0 : Int32)), (.int (0 : Int32))] (.int (0 : Int32)) := (Arv.new A16 (by decide)).pad (pad_rep [] (.int (0 : Int32)) 6)
        show own_Go p e below _ T16 (mkF m 45 #[.val (.int a), .val (.long d), .second, .val (.int (0 : Int32)), .val (.int (1 : Int32)), .val (.int ps), .unset] [(.ref nb16)])
        refine own_st (fun t_ k_ => XS.dup X16.here hx rfl (hb hby d2_45) rfl rfl k_) ?_
        show own_Go p e below _ T16 (mkF m 46 #[.val (.int a), .val (.long d), .second, .val (.int (0 : Int32)), .val (.int (1 : Int32)), .val (.int ps), .unset] [(.ref nb16), (.ref nb16)])
        refine own_st (fun t_ k_ => XS.iconst X16.here hx rfl (hb hby d2_46) k_) ?_
        show own_Go p e below _ T16 (mkF m 47 #[.val (.int a), .val (.long d), .second, .val (.int (0 : Int32)), .val (.int (1 : Int32)), .val (.int ps), .unset] [(.int (0 : Int32)), (.ref nb16), (.ref nb16)])
        refine own_st (fun t_ k_ => XS.bipush X16.here hx rfl (hb hby d2_47) k_) ?_
        show own_Go p e below _ T16 (mkF m 49 #[.val (.int a), .val (.long d), .second, .val (.int (0 : Int32)), .val (.int (1 : Int32)), .val (.int ps), .unset] [(.int (77 : Int32)), (.int (0 : Int32)), (.ref nb16), (.ref nb16)])
        obtain ⟨cl17, Ar17, q17, S17, N17', H17, G17⟩ := id V16
        have hin17 : ¬ ((0 : Int32) < 0 ∨ cl17.slots.size ≤ ((0 : Int32)).toNatClampNeg) := inb_of S17 ⟨by decide, by decide⟩
        obtain ⟨T17, h17, X17, e17, W17, st17⟩ := stC X16 hx hZ e16 Ar17 (j := (0 : Int32)) hin17 (g := (mkF m 49 #[.val (.int a), .val (.long d), .second, .val (.int (0 : Int32)), .val (.int (1 : Int32)), .val (.int ps), .unset] [(.int (77 : Int32)), (.int (0 : Int32)), (.ref nb16), (.ref nb16)])) rfl rfl (hb hby d2_49)
        have V17 : Arv Z h17 nb16 k16 .char (6 : Int32) [(.int (77 : Int32)), (.int (0 : Int32)), (.int (0 : Int32)), (.int (0 : Int32)), (.int (0 : Int32)), (.int (0 : Int32))] (.int (0 : Int32)) := Arv.set Ar17 q17 S17 N17' H17 G17 (fits_nar_char _) W17 0 rfl (Nat.le_of_ble_eq_true rfl)
        refine own_st st17 ?_
        have N17 := Fr.snoc X17 N0 g_nb16
        have K17 : Keep h0 h17 [] := K16.wr W17 (Or.inr sz_nb16)
        show own_Go p e below _ T17 (mkF m 50 #[.val (.int a), .val (.long d), .second, .val (.int (0 : Int32)), .val (.int (1 : Int32)), .val (.int ps), .unset] [(.ref nb16)])
        refine own_st (fun t_ k_ => XS.dup X17.here hx rfl (hb hby d2_50) rfl rfl k_) ?_
        show own_Go p e below _ T17 (mkF m 51 #[.val (.int a), .val (.long d), .second, .val (.int (0 : Int32)), .val (.int (1 : Int32)), .val (.int ps), .unset] [(.ref nb16), (.ref nb16)])
        refine own_st (fun t_ k_ => XS.iconst X17.here hx rfl (hb hby d2_51) k_) ?_
        show own_Go p e below _ T17 (mkF m 52 #[.val (.int a), .val (.long d), .second, .val (.int (0 : Int32)), .val (.int (1 : Int32)), .val (.int ps), .unset] [(.int (1 : Int32)), (.ref nb16), (.ref nb16)])
        refine own_st (fun t_ k_ => XS.bipush X17.here hx rfl (hb hby d2_52) k_) ?_
        show own_Go p e below _ T17 (mkF m 54 #[.val (.int a), .val (.long d), .second, .val (.int (0 : Int32)), .val (.int (1 : Int32)), .val (.int ps), .unset] [(.int (81 : Int32)), (.int (1 : Int32)), (.ref nb16), (.ref nb16)])
        obtain ⟨cl18, Ar18, q18, S18, N18', H18, G18⟩ := id V17
        have hin18 : ¬ ((1 : Int32) < 0 ∨ cl18.slots.size ≤ ((1 : Int32)).toNatClampNeg) := inb_of S18 ⟨by decide, by decide⟩
        obtain ⟨T18, h18, X18, e18, W18, st18⟩ := stC X17 hx hZ e17 Ar18 (j := (1 : Int32)) hin18 (g := (mkF m 54 #[.val (.int a), .val (.long d), .second, .val (.int (0 : Int32)), .val (.int (1 : Int32)), .val (.int ps), .unset] [(.int (81 : Int32)), (.int (1 : Int32)), (.ref nb16), (.ref nb16)])) rfl rfl (hb hby d2_54)
        have V18 : Arv Z h18 nb16 k16 .char (6 : Int32) [(.int (77 : Int32)), (.int (81 : Int32)), (.int (0 : Int32)), (.int (0 : Int32)), (.int (0 : Int32)), (.int (0 : Int32))] (.int (0 : Int32)) := Arv.set Ar18 q18 S18 N18' H18 G18 (fits_nar_char _) W18 1 rfl (Nat.le_of_ble_eq_true rfl)
        refine own_st st18 ?_
        have N18 := Fr.snoc X18 N17 g_nb16
        have K18 : Keep h0 h18 [] := K17.wr W18 (Or.inr sz_nb16)
        show own_Go p e below _ T18 (mkF m 55 #[.val (.int a), .val (.long d), .second, .val (.int (0 : Int32)), .val (.int (1 : Int32)), .val (.int ps), .unset] [(.ref nb16)])
        refine own_st (fun t_ k_ => XS.dup X18.here hx rfl (hb hby d2_55) rfl rfl k_) ?_
        show own_Go p e below _ T18 (mkF m 56 #[.val (.int a), .val (.long d), .second, .val (.int (0 : Int32)), .val (.int (1 : Int32)), .val (.int ps), .unset] [(.ref nb16), (.ref nb16)])
        refine own_st (fun t_ k_ => XS.iconst X18.here hx rfl (hb hby d2_56) k_) ?_
        show own_Go p e below _ T18 (mkF m 57 #[.val (.int a), .val (.long d), .second, .val (.int (0 : Int32)), .val (.int (1 : Int32)), .val (.int ps), .unset] [(.int (2 : Int32)), (.ref nb16), (.ref nb16)])
        refine own_st (fun t_ k_ => XS.bipush X18.here hx rfl (hb hby d2_57) k_) ?_
        show own_Go p e below _ T18 (mkF m 59 #[.val (.int a), .val (.long d), .second, .val (.int (0 : Int32)), .val (.int (1 : Int32)), .val (.int ps), .unset] [(.int (73 : Int32)), (.int (2 : Int32)), (.ref nb16), (.ref nb16)])
        obtain ⟨cl19, Ar19, q19, S19, N19', H19, G19⟩ := id V18
        have hin19 : ¬ ((2 : Int32) < 0 ∨ cl19.slots.size ≤ ((2 : Int32)).toNatClampNeg) := inb_of S19 ⟨by decide, by decide⟩
        obtain ⟨T19, h19, X19, e19, W19, st19⟩ := stC X18 hx hZ e18 Ar19 (j := (2 : Int32)) hin19 (g := (mkF m 59 #[.val (.int a), .val (.long d), .second, .val (.int (0 : Int32)), .val (.int (1 : Int32)), .val (.int ps), .unset] [(.int (73 : Int32)), (.int (2 : Int32)), (.ref nb16), (.ref nb16)])) rfl rfl (hb hby d2_59)
        have V19 : Arv Z h19 nb16 k16 .char (6 : Int32) [(.int (77 : Int32)), (.int (81 : Int32)), (.int (73 : Int32)), (.int (0 : Int32)), (.int (0 : Int32)), (.int (0 : Int32))] (.int (0 : Int32)) := Arv.set Ar19 q19 S19 N19' H19 G19 (fits_nar_char _) W19 2 rfl (Nat.le_of_ble_eq_true rfl)
        refine own_st st19 ?_
        have N19 := Fr.snoc X19 N18 g_nb16
        have K19 : Keep h0 h19 [] := K18.wr W19 (Or.inr sz_nb16)
        show own_Go p e below _ T19 (mkF m 60 #[.val (.int a), .val (.long d), .second, .val (.int (0 : Int32)), .val (.int (1 : Int32)), .val (.int ps), .unset] [(.ref nb16)])
        refine own_st (fun t_ k_ => XS.dup X19.here hx rfl (hb hby d2_60) rfl rfl k_) ?_
        show own_Go p e below _ T19 (mkF m 61 #[.val (.int a), .val (.long d), .second, .val (.int (0 : Int32)), .val (.int (1 : Int32)), .val (.int ps), .unset] [(.ref nb16), (.ref nb16)])
        refine own_st (fun t_ k_ => XS.iconst X19.here hx rfl (hb hby d2_61) k_) ?_
        show own_Go p e below _ T19 (mkF m 62 #[.val (.int a), .val (.long d), .second, .val (.int (0 : Int32)), .val (.int (1 : Int32)), .val (.int ps), .unset] [(.int (3 : Int32)), (.ref nb16), (.ref nb16)])
        refine own_st (fun t_ k_ => XS.bipush X19.here hx rfl (hb hby d2_62) k_) ?_
        show own_Go p e below _ T19 (mkF m 64 #[.val (.int a), .val (.long d), .second, .val (.int (0 : Int32)), .val (.int (1 : Int32)), .val (.int ps), .unset] [(.int (115 : Int32)), (.int (3 : Int32)), (.ref nb16), (.ref nb16)])
        obtain ⟨cl20, Ar20, q20, S20, N20', H20, G20⟩ := id V19
        have hin20 : ¬ ((3 : Int32) < 0 ∨ cl20.slots.size ≤ ((3 : Int32)).toNatClampNeg) := inb_of S20 ⟨by decide, by decide⟩
        obtain ⟨T20, h20, X20, e20, W20, st20⟩ := stC X19 hx hZ e19 Ar20 (j := (3 : Int32)) hin20 (g := (mkF m 64 #[.val (.int a), .val (.long d), .second, .val (.int (0 : Int32)), .val (.int (1 : Int32)), .val (.int ps), .unset] [(.int (115 : Int32)), (.int (3 : Int32)), (.ref nb16), (.ref nb16)])) rfl rfl (hb hby d2_64)
        have V20 : Arv Z h20 nb16 k16 .char (6 : Int32) [(.int (77 : Int32)), (.int (81 : Int32)), (.int (73 : Int32)), (.int (115 : Int32)), (.int (0 : Int32)), (.int (0 : Int32))] (.int (0 : Int32)) := Arv.set Ar20 q20 S20 N20' H20 G20 (fits_nar_char _) W20 3 rfl (Nat.le_of_ble_eq_true rfl)
        refine own_st st20 ?_
        have N20 := Fr.snoc X20 N19 g_nb16
        have K20 : Keep h0 h20 [] := K19.wr W20 (Or.inr sz_nb16)
        show own_Go p e below _ T20 (mkF m 65 #[.val (.int a), .val (.long d), .second, .val (.int (0 : Int32)), .val (.int (1 : Int32)), .val (.int ps), .unset] [(.ref nb16)])
        refine own_st (fun t_ k_ => XS.dup X20.here hx rfl (hb hby d2_65) rfl rfl k_) ?_
        show own_Go p e below _ T20 (mkF m 66 #[.val (.int a), .val (.long d), .second, .val (.int (0 : Int32)), .val (.int (1 : Int32)), .val (.int ps), .unset] [(.ref nb16), (.ref nb16)])
        refine own_st (fun t_ k_ => XS.iconst X20.here hx rfl (hb hby d2_66) k_) ?_
        show own_Go p e below _ T20 (mkF m 67 #[.val (.int a), .val (.long d), .second, .val (.int (0 : Int32)), .val (.int (1 : Int32)), .val (.int ps), .unset] [(.int (4 : Int32)), (.ref nb16), (.ref nb16)])
        refine own_st (fun t_ k_ => XS.bipush X20.here hx rfl (hb hby d2_67) k_) ?_
        show own_Go p e below _ T20 (mkF m 69 #[.val (.int a), .val (.long d), .second, .val (.int (0 : Int32)), .val (.int (1 : Int32)), .val (.int ps), .unset] [(.int (100 : Int32)), (.int (4 : Int32)), (.ref nb16), (.ref nb16)])
        obtain ⟨cl21, Ar21, q21, S21, N21', H21, G21⟩ := id V20
        have hin21 : ¬ ((4 : Int32) < 0 ∨ cl21.slots.size ≤ ((4 : Int32)).toNatClampNeg) := inb_of S21 ⟨by decide, by decide⟩
        obtain ⟨T21, h21, X21, e21, W21, st21⟩ := stC X20 hx hZ e20 Ar21 (j := (4 : Int32)) hin21 (g := (mkF m 69 #[.val (.int a), .val (.long d), .second, .val (.int (0 : Int32)), .val (.int (1 : Int32)), .val (.int ps), .unset] [(.int (100 : Int32)), (.int (4 : Int32)), (.ref nb16), (.ref nb16)])) rfl rfl (hb hby d2_69)
        have V21 : Arv Z h21 nb16 k16 .char (6 : Int32) [(.int (77 : Int32)), (.int (81 : Int32)), (.int (73 : Int32)), (.int (115 : Int32)), (.int (100 : Int32)), (.int (0 : Int32))] (.int (0 : Int32)) := Arv.set Ar21 q21 S21 N21' H21 G21 (fits_nar_char _) W21 4 rfl (Nat.le_of_ble_eq_true rfl)
        refine own_st st21 ?_
        have N21 := Fr.snoc X21 N20 g_nb16
        have K21 : Keep h0 h21 [] := K20.wr W21 (Or.inr sz_nb16)
        show own_Go p e below _ T21 (mkF m 70 #[.val (.int a), .val (.long d), .second, .val (.int (0 : Int32)), .val (.int (1 : Int32)), .val (.int ps), .unset] [(.ref nb16)])
        refine own_st (fun t_ k_ => XS.dup X21.here hx rfl (hb hby d2_70) rfl rfl k_) ?_
        show own_Go p e below _ T21 (mkF m 71 #[.val (.int a), .val (.long d), .second, .val (.int (0 : Int32)), .val (.int (1 : Int32)), .val (.int ps), .unset] [(.ref nb16), (.ref nb16)])
        refine own_st (fun t_ k_ => XS.iconst X21.here hx rfl (hb hby d2_71) k_) ?_
        show own_Go p e below _ T21 (mkF m 72 #[.val (.int a), .val (.long d), .second, .val (.int (0 : Int32)), .val (.int (1 : Int32)), .val (.int ps), .unset] [(.int (5 : Int32)), (.ref nb16), (.ref nb16)])
        refine own_st (fun t_ k_ => XS.bipush X21.here hx rfl (hb hby d2_72) k_) ?_
        show own_Go p e below _ T21 (mkF m 74 #[.val (.int a), .val (.long d), .second, .val (.int (0 : Int32)), .val (.int (1 : Int32)), .val (.int ps), .unset] [(.int (112 : Int32)), (.int (5 : Int32)), (.ref nb16), (.ref nb16)])
        obtain ⟨cl22, Ar22, q22, S22, N22', H22, G22⟩ := id V21
        have hin22 : ¬ ((5 : Int32) < 0 ∨ cl22.slots.size ≤ ((5 : Int32)).toNatClampNeg) := inb_of S22 ⟨by decide, by decide⟩
        obtain ⟨T22, h22, X22, e22, W22, st22⟩ := stC X21 hx hZ e21 Ar22 (j := (5 : Int32)) hin22 (g := (mkF m 74 #[.val (.int a), .val (.long d), .second, .val (.int (0 : Int32)), .val (.int (1 : Int32)), .val (.int ps), .unset] [(.int (112 : Int32)), (.int (5 : Int32)), (.ref nb16), (.ref nb16)])) rfl rfl (hb hby d2_74)
        have V22 : Arv Z h22 nb16 k16 .char (6 : Int32) [(.int (77 : Int32)), (.int (81 : Int32)), (.int (73 : Int32)), (.int (115 : Int32)), (.int (100 : Int32)), (.int (112 : Int32))] (.int (0 : Int32)) := Arv.set Ar22 q22 S22 N22' H22 G22 (fits_nar_char _) W22 5 rfl (Nat.le_of_ble_eq_true rfl)
        refine own_st st22 ?_
        have N22 := Fr.snoc X22 N21 g_nb16
        have K22 : Keep h0 h22 [] := K21.wr W22 (Or.inr sz_nb16)
        show own_Go p e below _ T22 (mkF m 75 #[.val (.int a), .val (.long d), .second, .val (.int (0 : Int32)), .val (.int (1 : Int32)), .val (.int ps), .unset] [(.ref nb16)])
        refine own_st (fun t_ k_ => XS.astore X22.here hx rfl (hb hby d2_75) rfl rfl (l' := #[.val (.int a), .val (.long d), .second, .val (.int (0 : Int32)), .val (.int (1 : Int32)), .val (.int ps), .val (.ref nb16)]) rfl k_) ?_
        show own_Go p e below _ T22 (mkF m 77 #[.val (.int a), .val (.long d), .second, .val (.int (0 : Int32)), .val (.int (1 : Int32)), .val (.int ps), .val (.ref nb16)] [])
        refine own_st (fun t_ k_ => XS.iloadN X22.here hx rfl (hb hby d2_77) rfl k_) ?_
        show own_Go p e below _ T22 (mkF m 78 #[.val (.int a), .val (.long d), .second, .val (.int (0 : Int32)), .val (.int (1 : Int32)), .val (.int ps), .val (.ref nb16)] [(.int (0 : Int32))])
        refine own_st (fun t_ k_ => XS.iconst X22.here hx rfl (hb hby d2_78) k_) ?_
        show own_Go p e below _ T22 (mkF m 79 #[.val (.int a), .val (.long d), .second, .val (.int (0 : Int32)), .val (.int (1 : Int32)), .val (.int ps), .val (.ref nb16)] [(.int (1 : Int32)), (.int (0 : Int32))])
        refine own_st (fun t_ k_ => XS.icmpYes X22.here hx rfl (pc0 := 79) (pc' := 92) rfl (hb hby d2_79) rfl (by decide) (by decide) (by decide) k_) ?_
        show own_Go p e below _ T22 (mkF m 92 #[.val (.int a), .val (.long d), .second, .val (.int (0 : Int32)), .val (.int (1 : Int32)), .val (.int ps), .val (.ref nb16)] [])
        obtain ⟨T23, h23, X23, e23, E23, A23, D23, cel23, st23⟩ := newO X22 hx hZ hown (hw _ (List.mem_of_getElem? (i := 5) rfl)) (hw _ (List.mem_of_getElem? (i := 6) rfl)) (hw _ (List.mem_of_getElem? (i := 7) rfl)) e22 (g := (mkF m 92 #[.val (.int a), .val (.long d), .second, .val (.int (0 : Int32)), .val (.int (1 : Int32)), .val (.int ps), .val (.ref nb16)] [])) rfl (hb hby d2_92) (by decide) (by decide)
        obtain ⟨nb23, g23⟩ : ∃ z, z = h22.size := ⟨_, rfl⟩
        rw [← g23] at A23 D23 cel23 st23
        refine own_st st23 ?_
        have g_nb23 : n0 ≤ nb23 := Nat.le_trans (Nat.le_trans Z0 K22.1) (Nat.le_of_eq g23.symm)
        have K23 : Keep h0 h23 [] := K22.ext E23
        have sz_nb23 : h0.size ≤ nb23 := Nat.le_trans K22.1 (Nat.le_of_eq g23.symm)
        have F23_coder : Fld Z h23 nb23 "java/lang/String" "coder" "B" (.int (0 : Int32)) := D23 (Or.inr (hw _ (List.mem_of_getElem? (i := 31) rfl))) (ty := .byte) (by decide)
        have F23_value : Fld Z h23 nb23 "java/lang/String" "value" "[B" .null := D23 (Or.inr (hw _ (List.mem_of_getElem? (i := 33) rfl))) (ty := (.array .byte)) (by decide)
        show own_Go p e below _ T23 (mkF m 95 #[.val (.int a), .val (.long d), .second, .val (.int (0 : Int32)), .val (.int (1 : Int32)), .val (.int ps), .val (.ref nb16)] [(.ref nb23)])
        refine own_st (fun t_ k_ => XS.dup X23.here hx rfl (hb hby d2_95) rfl rfl k_) ?_
        show own_Go p e below _ T23 (mkF m 96 #[.val (.int a), .val (.long d), .second, .val (.int (0 : Int32)), .val (.int (1 : Int32)), .val (.int ps), .val (.ref nb16)] [(.ref nb23), (.ref nb23)])
        refine own_st (fun t_ k_ => XS.aload X23.here hx rfl (hb hby d2_96) rfl rfl k_) ?_
        show own_Go p e below _ T23 (mkF m 98 #[.val (.int a), .val (.long d), .second, .val (.int (0 : Int32)), .val (.int (1 : Int32)), .val (.int ps), .val (.ref nb16)] [(.ref nb16), (.ref nb23), (.ref nb23)])
        have hp24 : ∀ c ∈ ([(77 : Int32), (81 : Int32), (73 : Int32), (115 : Int32), (100 : Int32), (112 : Int32)] : List Int32), ¬ c < 0 ∧ ¬ (255 : Int32) < c := (own_lcons ⟨by decide, by decide⟩ (own_lcons ⟨by decide, by decide⟩ (own_lcons ⟨by decide, by decide⟩ (own_lcons ⟨by decide, by decide⟩ (own_lcons ⟨by decide, by decide⟩ (own_lcons ⟨by decide, by decide⟩ own_lnil))))))
        have f25 := (V22.ext E23)
        have f26 := (O0.ext E16)
        have f27 := (f26.wr W17 g_nb16)
        have f28 := (f27.wr W18 g_nb16)
        have f29 := (f28.wr W19 g_nb16)
        have f30 := (f29.wr W20 g_nb16)
        have f31 := (f30.wr W21 g_nb16)
        have f32 := (f31.wr W22 g_nb16)
        have f33 := (f32.ext E23)
        refine own_callN X23 hx (y := (⟨"java/lang/String", "<init>", "([C)V"⟩ : MethodName)) rfl hown (mvT hZ (hw _ (List.mem_of_getElem? (i := 8) rfl))) (mvT hZ (hw _ (List.mem_of_getElem? (i := 9) rfl))) (mvT hZ (hw _ (List.mem_of_getElem? (i := 10) rfl))) (by decide) (StrChars.Road.backV (W := 1) hZ (own_words hw) (kI := 4) (hw _ (List.mem_of_getElem? (i := 6) rfl)) (cs := ([(77 : Int32), (81 : Int32), (73 : Int32), (115 : Int32), (100 : Int32), (112 : Int32)] : List Int32)) (bs := ([(77 : Int32), (81 : Int32), (73 : Int32), (115 : Int32), (100 : Int32), (112 : Int32)] : List Int32).map (fun c => c.toInt8.toInt32)) (n := 6) g_nb23 (Nat.le_trans Z0 K23.1) A23 F23_value F23_coder f25 (Sta.ext f33.2 SC) hCS rfl rfl (by decide) (by decide) hp24 rfl (by decide) (by decide)) (a := nb23) (g := (mkF m 98 #[.val (.int a), .val (.long d), .second, .val (.int (0 : Int32)), .val (.int (1 : Int32)), .val (.int ps), .val (.ref nb16)] [(.ref nb16), (.ref nb23), (.ref nb23)])) rfl (by rw [hml]; rfl) (argsL := [(.ref nb16)]) (rest := [(.ref nb23)]) (lenOf pd_0 rfl) rfl (by show 2 * 0 + _ ≤ _; exact Nat.le_of_eq rfl) (hb hby d2_98) rfl e23 (by decide) (by decide) ?_
        rintro v24 T24 L24 X24 ⟨rfl, Nq24, Kq24, Eq24, Cq24, t24, kb24, g_t24, gt24, nt24, Vq24, Aq24⟩
        have sz_t24 : h0.size ≤ t24 := Nat.le_trans K23.1 gt24
        have N24 := Fr.app N22 Nq24
        have K24 : Keep h0 T24.heap [] := K23.trans Kq24 (allS (Or.inr sz_nb23) all0)
        show own_Go p e below _ T24 (mkF m 101 #[.val (.int a), .val (.long d), .second, .val (.int (0 : Int32)), .val (.int (1 : Int32)), .val (.int ps), .val (.ref nb16)] [(.ref nb23)])
        refine own_retA X24 hx hlk Bd.returns rfl rfl (hb hby d2_101) ?_ (by decide) (by decide)
        show QNa Z h0 n0 _ T24.heap _
        exact ⟨([(77 : Int32), (81 : Int32), (73 : Int32), (115 : Int32), (100 : Int32), (112 : Int32)] : List Int32), Nat.le_of_ble_eq_true rfl, nb23, t24, kb24, rfl, N24, K24, sz_nb23, g_nb23, nt24, Eq24, Cq24, Vq24, Aq24, hp24⟩
    · show own_Go p e below _ s₁ (mkF m 28 #[.val (.int a), .val (.long d), .second, .val (.int (1 : Int32)), .val (.int b4), .val (.int ps), .unset] [(.int (1 : Int32))])
      refine own_st (fun t_ k_ => XS.ifNo X0.here hx rfl (hb hby d2_28) rfl (by decide) k_) ?_
      show own_Go p e below _ s₁ (mkF m 31 #[.val (.int a), .val (.long d), .second, .val (.int (1 : Int32)), .val (.int b4), .val (.int ps), .unset] [])
      refine own_st (fun t_ k_ => XS.iloadN X0.here hx rfl (hb hby d2_31) rfl k_) ?_
      show own_Go p e below _ s₁ (mkF m 32 #[.val (.int a), .val (.long d), .second, .val (.int (1 : Int32)), .val (.int b4), .val (.int ps), .unset] [(.int (1 : Int32))])
      refine own_st (fun t_ k_ => XS.iconst X0.here hx rfl (hb hby d2_32) k_) ?_
      show own_Go p e below _ s₁ (mkF m 33 #[.val (.int a), .val (.long d), .second, .val (.int (1 : Int32)), .val (.int b4), .val (.int ps), .unset] [(.int (1 : Int32)), (.int (1 : Int32))])
      refine own_st (fun t_ k_ => XS.icmpNo X0.here hx rfl (hb hby d2_33) rfl (by decide) k_) ?_
      show own_Go p e below _ s₁ (mkF m 36 #[.val (.int a), .val (.long d), .second, .val (.int (1 : Int32)), .val (.int b4), .val (.int ps), .unset] [])
      refine own_st (fun t_ k_ => XS.iload X0.here hx rfl (hb hby d2_36) rfl k_) ?_
      show own_Go p e below _ s₁ (mkF m 38 #[.val (.int a), .val (.long d), .second, .val (.int (1 : Int32)), .val (.int b4), .val (.int ps), .unset] [(.int b4)])
      rcases (h_b4 : b4 = (0 : Int32) ∨ b4 = (1 : Int32)) with rfl | rfl
      · show own_Go p e below _ s₁ (mkF m 38 #[.val (.int a), .val (.long d), .second, .val (.int (1 : Int32)), .val (.int (0 : Int32)), .val (.int ps), .unset] [(.int (0 : Int32))])
        refine own_st (fun t_ k_ => XS.ifYes X0.here hx rfl (pc0 := 38) (pc' := 102) rfl (hb hby d2_38) rfl (by decide) (by decide) (by decide) k_) ?_
        show own_Go p e below _ s₁ (mkF m 102 #[.val (.int a), .val (.long d), .second, .val (.int (1 : Int32)), .val (.int (0 : Int32)), .val (.int ps), .unset] [])
        refine own_st (fun t_ k_ => XS.iconst X0.here hx rfl (hb hby d2_102) k_) ?_
        show own_Go p e below _ s₁ (mkF m 103 #[.val (.int a), .val (.long d), .second, .val (.int (1 : Int32)), .val (.int (0 : Int32)), .val (.int ps), .unset] [(.int (4 : Int32))])
        obtain ⟨T34, h34, k34, X34, e34, E34, A34, st34⟩ := newP X0 hx hZ (hw _ (List.mem_of_getElem? (i := 4) rfl)) e0 (g := (mkF m 103 #[.val (.int a), .val (.long d), .second, .val (.int (1 : Int32)), .val (.int (0 : Int32)), .val (.int ps), .unset] [(.int (4 : Int32))])) rfl (hb hby d2_103) rfl (by decide) (cap := 4) (by decide) (by decide) (by decide) (by decide)
        obtain ⟨nb34, g34⟩ : ∃ z, z = h0.size := ⟨_, rfl⟩
        rw [← g34] at A34 st34
        refine own_st st34 ?_
        have g_nb34 : n0 ≤ nb34 := Nat.le_trans (Nat.le_trans Z0 (Keep.refl h0 []).1) (Nat.le_of_eq g34.symm)
        have K34 : Keep h0 h34 [] := (Keep.refl h0 []).ext E34
        have sz_nb34 : h0.size ≤ nb34 := Nat.le_trans (Keep.refl h0 []).1 (Nat.le_of_eq g34.symm)
        have V34 : Arv Z h34 nb34 k34 .char (4 : Int32) [(.int (0 : Int32)), (.int (0 : Int32)), (.int (0 : Int32)), (.int (0 : Int32))] (.int (0 : Int32)) := (Arv.new A34 (by decide)).pad (pad_rep [] (.int (0 : Int32)) 4)
        show own_Go p e below _ T34 (mkF m 105 #[.val (.int a), .val (.long d), .second, .val (.int (1 : Int32)), .val (.int (0 : Int32)), .val (.int ps), .unset] [(.ref nb34)])
        refine own_st (fun t_ k_ => XS.dup X34.here hx rfl (hb hby d2_105) rfl rfl k_) ?_
        show own_Go p e below _ T34 (mkF m 106 #[.val (.int a), .val (.long d), .second, .val (.int (1 : Int32)), .val (.int (0 : Int32)), .val (.int ps), .unset] [(.ref nb34), (.ref nb34)])
        refine own_st (fun t_ k_ => XS.iconst X34.here hx rfl (hb hby d2_106) k_) ?_
        show own_Go p e below _ T34 (mkF m 107 #[.val (.int a), .val (.long d), .second, .val (.int (1 : Int32)), .val (.int (0 : Int32)), .val (.int ps), .unset] [(.int (0 : Int32)), (.ref nb34), (.ref nb34)])
        refine own_st (fun t_ k_ => XS.bipush X34.here hx rfl (hb hby d2_107) k_) ?_
        show own_Go p e below _ T34 (mkF m 109 #[.val (.int a), .val (.long d), .second, .val (.int (1 : Int32)), .val (.int (0 : Int32)), .val (.int ps), .unset] [(.int (77 : Int32)), (.int (0 : Int32)), (.ref nb34), (.ref nb34)])
        obtain ⟨cl35, Ar35, q35, S35, N35', H35, G35⟩ := id V34
        have hin35 : ¬ ((0 : Int32) < 0 ∨ cl35.slots.size ≤ ((0 : Int32)).toNatClampNeg) := inb_of S35 ⟨by decide, by decide⟩
        obtain ⟨T35, h35, X35, e35, W35, st35⟩ := stC X34 hx hZ e34 Ar35 (j := (0 : Int32)) hin35 (g := (mkF m 109 #[.val (.int a), .val (.long d), .second, .val (.int (1 : Int32)), .val (.int (0 : Int32)), .val (.int ps), .unset] [(.int (77 : Int32)), (.int (0 : Int32)), (.ref nb34), (.ref nb34)])) rfl rfl (hb hby d2_109)
        have V35 : Arv Z h35 nb34 k34 .char (4 : Int32) [(.int (77 : Int32)), (.int (0 : Int32)), (.int (0 : Int32)), (.int (0 : Int32))] (.int (0 : Int32)) := Arv.set Ar35 q35 S35 N35' H35 G35 (fits_nar_char _) W35 0 rfl (Nat.le_of_ble_eq_true rfl)
        refine own_st st35 ?_
        have N35 := Fr.snoc X35 N0 g_nb34
        have K35 : Keep h0 h35 [] := K34.wr W35 (Or.inr sz_nb34)
        show own_Go p e below _ T35 (mkF m 110 #[.val (.int a), .val (.long d), .second, .val (.int (1 : Int32)), .val (.int (0 : Int32)), .val (.int ps), .unset] [(.ref nb34)])
        refine own_st (fun t_ k_ => XS.dup X35.here hx rfl (hb hby d2_110) rfl rfl k_) ?_
        show own_Go p e below _ T35 (mkF m 111 #[.val (.int a), .val (.long d), .second, .val (.int (1 : Int32)), .val (.int (0 : Int32)), .val (.int ps), .unset] [(.ref nb34), (.ref nb34)])
        refine own_st (fun t_ k_ => XS.iconst X35.here hx rfl (hb hby d2_111) k_) ?_
        show own_Go p e below _ T35 (mkF m 112 #[.val (.int a), .val (.long d), .second, .val (.int (1 : Int32)), .val (.int (0 : Int32)), .val (.int ps), .unset] [(.int (1 : Int32)), (.ref nb34), (.ref nb34)])
        refine own_st (fun t_ k_ => XS.bipush X35.here hx rfl (hb hby d2_112) k_) ?_
        show own_Go p e below _ T35 (mkF m 114 #[.val (.int a), .val (.long d), .second, .val (.int (1 : Int32)), .val (.int (0 : Int32)), .val (.int ps), .unset] [(.int (81 : Int32)), (.int (1 : Int32)), (.ref nb34), (.ref nb34)])
        obtain ⟨cl36, Ar36, q36, S36, N36', H36, G36⟩ := id V35
        have hin36 : ¬ ((1 : Int32) < 0 ∨ cl36.slots.size ≤ ((1 : Int32)).toNatClampNeg) := inb_of S36 ⟨by decide, by decide⟩
        obtain ⟨T36, h36, X36, e36, W36, st36⟩ := stC X35 hx hZ e35 Ar36 (j := (1 : Int32)) hin36 (g := (mkF m 114 #[.val (.int a), .val (.long d), .second, .val (.int (1 : Int32)), .val (.int (0 : Int32)), .val (.int ps), .unset] [(.int (81 : Int32)), (.int (1 : Int32)), (.ref nb34), (.ref nb34)])) rfl rfl (hb hby d2_114)
        have V36 : Arv Z h36 nb34 k34 .char (4 : Int32) [(.int (77 : Int32)), (.int (81 : Int32)), (.int (0 : Int32)), (.int (0 : Int32))] (.int (0 : Int32)) := Arv.set Ar36 q36 S36 N36' H36 G36 (fits_nar_char _) W36 1 rfl (Nat.le_of_ble_eq_true rfl)
        refine own_st st36 ?_
        have N36 := Fr.snoc X36 N35 g_nb34
        have K36 : Keep h0 h36 [] := K35.wr W36 (Or.inr sz_nb34)
        show own_Go p e below _ T36 (mkF m 115 #[.val (.int a), .val (.long d), .second, .val (.int (1 : Int32)), .val (.int (0 : Int32)), .val (.int ps), .unset] [(.ref nb34)])
        refine own_st (fun t_ k_ => XS.dup X36.here hx rfl (hb hby d2_115) rfl rfl k_) ?_
        show own_Go p e below _ T36 (mkF m 116 #[.val (.int a), .val (.long d), .second, .val (.int (1 : Int32)), .val (.int (0 : Int32)), .val (.int ps), .unset] [(.ref nb34), (.ref nb34)])
        refine own_st (fun t_ k_ => XS.iconst X36.here hx rfl (hb hby d2_116) k_) ?_
        show own_Go p e below _ T36 (mkF m 117 #[.val (.int a), .val (.long d), .second, .val (.int (1 : Int32)), .val (.int (0 : Int32)), .val (.int ps), .unset] [(.int (2 : Int32)), (.ref nb34), (.ref nb34)])
        refine own_st (fun t_ k_ => XS.bipush X36.here hx rfl (hb hby d2_117) k_) ?_
        show own_Go p e below _ T36 (mkF m 119 #[.val (.int a), .val (.long d), .second, .val (.int (1 : Int32)), .val (.int (0 : Int32)), .val (.int ps), .unset] [(.int (84 : Int32)), (.int (2 : Int32)), (.ref nb34), (.ref nb34)])
        obtain ⟨cl37, Ar37, q37, S37, N37', H37, G37⟩ := id V36
        have hin37 : ¬ ((2 : Int32) < 0 ∨ cl37.slots.size ≤ ((2 : Int32)).toNatClampNeg) := inb_of S37 ⟨by decide, by decide⟩
        obtain ⟨T37, h37, X37, e37, W37, st37⟩ := stC X36 hx hZ e36 Ar37 (j := (2 : Int32)) hin37 (g := (mkF m 119 #[.val (.int a), .val (.long d), .second, .val (.int (1 : Int32)), .val (.int (0 : Int32)), .val (.int ps), .unset] [(.int (84 : Int32)), (.int (2 : Int32)), (.ref nb34), (.ref nb34)])) rfl rfl (hb hby d2_119)
        have V37 : Arv Z h37 nb34 k34 .char (4 : Int32) [(.int (77 : Int32)), (.int (81 : Int32)), (.int (84 : Int32)), (.int (0 : Int32))] (.int (0 : Int32)) := Arv.set Ar37 q37 S37 N37' H37 G37 (fits_nar_char _) W37 2 rfl (Nat.le_of_ble_eq_true rfl)
        refine own_st st37 ?_
        have N37 := Fr.snoc X37 N36 g_nb34
        have K37 : Keep h0 h37 [] := K36.wr W37 (Or.inr sz_nb34)
        show own_Go p e below _ T37 (mkF m 120 #[.val (.int a), .val (.long d), .second, .val (.int (1 : Int32)), .val (.int (0 : Int32)), .val (.int ps), .unset] [(.ref nb34)])
        refine own_st (fun t_ k_ => XS.dup X37.here hx rfl (hb hby d2_120) rfl rfl k_) ?_
        show own_Go p e below _ T37 (mkF m 121 #[.val (.int a), .val (.long d), .second, .val (.int (1 : Int32)), .val (.int (0 : Int32)), .val (.int ps), .unset] [(.ref nb34), (.ref nb34)])
        refine own_st (fun t_ k_ => XS.iconst X37.here hx rfl (hb hby d2_121) k_) ?_
        show own_Go p e below _ T37 (mkF m 122 #[.val (.int a), .val (.long d), .second, .val (.int (1 : Int32)), .val (.int (0 : Int32)), .val (.int ps), .unset] [(.int (3 : Int32)), (.ref nb34), (.ref nb34)])
        refine own_st (fun t_ k_ => XS.bipush X37.here hx rfl (hb hby d2_122) k_) ?_
        show own_Go p e below _ T37 (mkF m 124 #[.val (.int a), .val (.long d), .second, .val (.int (1 : Int32)), .val (.int (0 : Int32)), .val (.int ps), .unset] [(.int (84 : Int32)), (.int (3 : Int32)), (.ref nb34), (.ref nb34)])
        obtain ⟨cl38, Ar38, q38, S38, N38', H38, G38⟩ := id V37
        have hin38 : ¬ ((3 : Int32) < 0 ∨ cl38.slots.size ≤ ((3 : Int32)).toNatClampNeg) := inb_of S38 ⟨by decide, by decide⟩
        obtain ⟨T38, h38, X38, e38, W38, st38⟩ := stC X37 hx hZ e37 Ar38 (j := (3 : Int32)) hin38 (g := (mkF m 124 #[.val (.int a), .val (.long d), .second, .val (.int (1 : Int32)), .val (.int (0 : Int32)), .val (.int ps), .unset] [(.int (84 : Int32)), (.int (3 : Int32)), (.ref nb34), (.ref nb34)])) rfl rfl (hb hby d2_124)
        have V38 : Arv Z h38 nb34 k34 .char (4 : Int32) [(.int (77 : Int32)), (.int (81 : Int32)), (.int (84 : Int32)), (.int (84 : Int32))] (.int (0 : Int32)) := Arv.set Ar38 q38 S38 N38' H38 G38 (fits_nar_char _) W38 3 rfl (Nat.le_of_ble_eq_true rfl)
        refine own_st st38 ?_
        have N38 := Fr.snoc X38 N37 g_nb34
        have K38 : Keep h0 h38 [] := K37.wr W38 (Or.inr sz_nb34)
        show own_Go p e below _ T38 (mkF m 125 #[.val (.int a), .val (.long d), .second, .val (.int (1 : Int32)), .val (.int (0 : Int32)), .val (.int ps), .unset] [(.ref nb34)])
        refine own_st (fun t_ k_ => XS.astore X38.here hx rfl (hb hby d2_125) rfl rfl (l' := #[.val (.int a), .val (.long d), .second, .val (.int (1 : Int32)), .val (.int (0 : Int32)), .val (.int ps), .val (.ref nb34)]) rfl k_) ?_
        show own_Go p e below _ T38 (mkF m 127 #[.val (.int a), .val (.long d), .second, .val (.int (1 : Int32)), .val (.int (0 : Int32)), .val (.int ps), .val (.ref nb34)] [])
        refine own_st (fun t_ k_ => XS.iloadN X38.here hx rfl (hb hby d2_127) rfl k_) ?_
        show own_Go p e below _ T38 (mkF m 128 #[.val (.int a), .val (.long d), .second, .val (.int (1 : Int32)), .val (.int (0 : Int32)), .val (.int ps), .val (.ref nb34)] [(.int (1 : Int32))])
        refine own_st (fun t_ k_ => XS.iconst X38.here hx rfl (hb hby d2_128) k_) ?_
        show own_Go p e below _ T38 (mkF m 129 #[.val (.int a), .val (.long d), .second, .val (.int (1 : Int32)), .val (.int (0 : Int32)), .val (.int ps), .val (.ref nb34)] [(.int (1 : Int32)), (.int (1 : Int32))])
        refine own_st (fun t_ k_ => XS.icmpNo X38.here hx rfl (hb hby d2_129) rfl (by decide) k_) ?_
        show own_Go p e below _ T38 (mkF m 132 #[.val (.int a), .val (.long d), .second, .val (.int (1 : Int32)), .val (.int (0 : Int32)), .val (.int ps), .val (.ref nb34)] [])
        refine own_st (fun t_ k_ => XS.aload X38.here hx rfl (hb hby d2_132) rfl rfl k_) ?_
        show own_Go p e below _ T38 (mkF m 134 #[.val (.int a), .val (.long d), .second, .val (.int (1 : Int32)), .val (.int (0 : Int32)), .val (.int ps), .val (.ref nb34)] [(.ref nb34)])
        rcases (d_ps : ps = (0 : Int32) ∨ ps = (1 : Int32) ∨ ps = (2 : Int32) ∨ ps = (3 : Int32) ∨ ps = (4 : Int32) ∨ ps = (5 : Int32)) with rfl | rfl | rfl | rfl | rfl | rfl
        · show own_Go p e below _ T38 (mkF m 134 #[.val (.int a), .val (.long d), .second, .val (.int (1 : Int32)), .val (.int (0 : Int32)), .val (.int (0 : Int32)), .val (.ref nb34)] [(.ref nb34)])
          refine own_st (fun t_ k_ => XS.iload X38.here hx rfl (hb hby d2_134) rfl k_) ?_
          show own_Go p e below _ T38 (mkF m 136 #[.val (.int a), .val (.long d), .second, .val (.int (1 : Int32)), .val (.int (0 : Int32)), .val (.int (0 : Int32)), .val (.ref nb34)] [(.int (0 : Int32)), (.ref nb34)])
          refine own_st (fun t_ k_ => XS.iconst X38.here hx rfl (hb hby d2_136) k_) ?_
          show own_Go p e below _ T38 (mkF m 137 #[.val (.int a), .val (.long d), .second, .val (.int (1 : Int32)), .val (.int (0 : Int32)), .val (.int (0 : Int32)), .val (.ref nb34)] [(.int (4 : Int32)), (.int (0 : Int32)), (.ref nb34)])
          refine own_st (fun t_ k_ => Jvm.RoadKit.iremM (g := (mkF m 137 #[.val (.int a), .val (.long d), .second, .val (.int (1 : Int32)), .val (.int (0 : Int32)), .val (.int (0 : Int32)), .val (.ref nb34)] [(.int (4 : Int32)), (.int (0 : Int32)), (.ref nb34)])) X38 hx rfl (hb hby d2_137) rfl (by decide) k_) ?_
          show own_Go p e below _ T38 (mkF m 138 #[.val (.int a), .val (.long d), .second, .val (.int (1 : Int32)), .val (.int (0 : Int32)), .val (.int (0 : Int32)), .val (.ref nb34)] [(.int (0 : Int32)), (.ref nb34)])
          refine own_st (fun t_ k_ => XS.lloadN X38.here hx rfl (hb hby d2_138) rfl k_) ?_
          show own_Go p e below _ T38 (mkF m 139 #[.val (.int a), .val (.long d), .second, .val (.int (1 : Int32)), .val (.int (0 : Int32)), .val (.int (0 : Int32)), .val (.ref nb34)] [(.long d), (.int (0 : Int32)), (.ref nb34)])
          refine own_st (fun t_ k_ => XS.iconst X38.here hx rfl (hb hby d2_139) k_) ?_
          show own_Go p e below _ T38 (mkF m 140 #[.val (.int a), .val (.long d), .second, .val (.int (1 : Int32)), .val (.int (0 : Int32)), .val (.int (0 : Int32)), .val (.ref nb34)] [(.int (0 : Int32)), (.long d), (.int (0 : Int32)), (.ref nb34)])
          refine own_callS X38 hx (y := (⟨"com/example/lean_pubsub/leanpubsub/codec/ProtocolVersionFindPinLaw", "pick", "(JI)C"⟩ : MethodName)) hown (mvT hZ (hw _ (List.mem_of_getElem? (i := 75) rfl))) (mvT hZ (hw _ (List.mem_of_getElem? (i := 76) rfl))) (mvT hZ (hw _ (List.mem_of_getElem? (i := 2) rfl))) (mvT hZ (hw _ (List.mem_of_getElem? (i := 77) rfl))) (by decide) (backOf (W := 2) (rmPK l Z a0 hw [] d (0 : Int32) h38 n0 (Nat.le_trans Z0 K38.1)) hZ (hw _ (List.mem_of_getElem? (i := 77) rfl)) (hw _ (List.mem_of_getElem? (i := 2) rfl)) (by decide) (by decide)) (g := (mkF m 140 #[.val (.int a), .val (.long d), .second, .val (.int (1 : Int32)), .val (.int (0 : Int32)), .val (.int (0 : Int32)), .val (.ref nb34)] [(.int (0 : Int32)), (.long d), (.int (0 : Int32)), (.ref nb34)])) rfl (by rw [hml]; rfl) (argsL := [(.long d), (.int (0 : Int32))]) (rest := [(.int (0 : Int32)), (.ref nb34)]) (lenOf pd_1 rfl) rfl (by show 2 * 0 + _ ≤ _; exact Nat.le_of_eq rfl) (hb hby d2_140) rfl e38 (by decide) (by decide) ?_
          rintro v39 T39 L39 X39 ⟨c39, rfl, Nq39, hh39, lc39⟩
          have N39 := Fr.app N38 Nq39
          show own_Go p e below _ T39 (mkF m 143 #[.val (.int a), .val (.long d), .second, .val (.int (1 : Int32)), .val (.int (0 : Int32)), .val (.int (0 : Int32)), .val (.ref nb34)] [(.int c39), (.int (0 : Int32)), (.ref nb34)])
          obtain ⟨cl40, Ar40, q40, S40, N40', H40, G40⟩ := id V38
          have hin40 : ¬ ((0 : Int32) < 0 ∨ cl40.slots.size ≤ ((0 : Int32)).toNatClampNeg) := inb_of S40 ⟨by decide, by decide⟩
          obtain ⟨T40, h40, X40, e40, W40, st40⟩ := stC X39 hx hZ hh39 Ar40 (j := (0 : Int32)) hin40 (g := (mkF m 143 #[.val (.int a), .val (.long d), .second, .val (.int (1 : Int32)), .val (.int (0 : Int32)), .val (.int (0 : Int32)), .val (.ref nb34)] [(.int c39), (.int (0 : Int32)), (.ref nb34)])) rfl rfl (hb hby d2_143)
          have V40 : Arv Z h40 nb34 k34 .char (4 : Int32) [(.int (nar .char c39)), (.int (81 : Int32)), (.int (84 : Int32)), (.int (84 : Int32))] (.int (0 : Int32)) := Arv.set Ar40 q40 S40 N40' H40 G40 (fits_nar_char _) W40 0 rfl (Nat.le_of_ble_eq_true rfl)
          refine own_st st40 ?_
          have N40 := Fr.snoc X40 N39 g_nb34
          have K40 : Keep h0 h40 [] := K38.wr W40 (Or.inr sz_nb34)
          show own_Go p e below _ T40 (mkF m 144 #[.val (.int a), .val (.long d), .second, .val (.int (1 : Int32)), .val (.int (0 : Int32)), .val (.int (0 : Int32)), .val (.ref nb34)] [])
          obtain ⟨T41, h41, X41, e41, E41, A41, D41, cel41, st41⟩ := newO X40 hx hZ hown (hw _ (List.mem_of_getElem? (i := 5) rfl)) (hw _ (List.mem_of_getElem? (i := 6) rfl)) (hw _ (List.mem_of_getElem? (i := 7) rfl)) e40 (g := (mkF m 144 #[.val (.int a), .val (.long d), .second, .val (.int (1 : Int32)), .val (.int (0 : Int32)), .val (.int (0 : Int32)), .val (.ref nb34)] [])) rfl (hb hby d2_144) (by decide) (by decide)
          obtain ⟨nb41, g41⟩ : ∃ z, z = h40.size := ⟨_, rfl⟩
          rw [← g41] at A41 D41 cel41 st41
          refine own_st st41 ?_
          have g_nb41 : n0 ≤ nb41 := Nat.le_trans (Nat.le_trans Z0 K40.1) (Nat.le_of_eq g41.symm)
          have K41 : Keep h0 h41 [] := K40.ext E41
          have sz_nb41 : h0.size ≤ nb41 := Nat.le_trans K40.1 (Nat.le_of_eq g41.symm)
          have F41_coder : Fld Z h41 nb41 "java/lang/String" "coder" "B" (.int (0 : Int32)) := D41 (Or.inr (hw _ (List.mem_of_getElem? (i := 31) rfl))) (ty := .byte) (by decide)
          have F41_value : Fld Z h41 nb41 "java/lang/String" "value" "[B" .null := D41 (Or.inr (hw _ (List.mem_of_getElem? (i := 33) rfl))) (ty := (.array .byte)) (by decide)
          show own_Go p e below _ T41 (mkF m 147 #[.val (.int a), .val (.long d), .second, .val (.int (1 : Int32)), .val (.int (0 : Int32)), .val (.int (0 : Int32)), .val (.ref nb34)] [(.ref nb41)])
          refine own_st (fun t_ k_ => XS.dup X41.here hx rfl (hb hby d2_147) rfl rfl k_) ?_
          show own_Go p e below _ T41 (mkF m 148 #[.val (.int a), .val (.long d), .second, .val (.int (1 : Int32)), .val (.int (0 : Int32)), .val (.int (0 : Int32)), .val (.ref nb34)] [(.ref nb41), (.ref nb41)])
          refine own_st (fun t_ k_ => XS.aload X41.here hx rfl (hb hby d2_148) rfl rfl k_) ?_
          show own_Go p e below _ T41 (mkF m 150 #[.val (.int a), .val (.long d), .second, .val (.int (1 : Int32)), .val (.int (0 : Int32)), .val (.int (0 : Int32)), .val (.ref nb34)] [(.ref nb34), (.ref nb41), (.ref nb41)])
          have hp42 : ∀ c ∈ ([(nar .char c39), (81 : Int32), (84 : Int32), (84 : Int32)] : List Int32), ¬ c < 0 ∧ ¬ (255 : Int32) < c := (own_lcons (own_LLN lc39) (own_lcons ⟨by decide, by decide⟩ (own_lcons ⟨by decide, by decide⟩ (own_lcons ⟨by decide, by decide⟩ own_lnil))))
          have f43 := (V40.ext E41)
          have f44 := (O0.ext E34)
          have f45 := (f44.wr W35 g_nb34)
          have f46 := (f45.wr W36 g_nb34)
          have f47 := (f46.wr W37 g_nb34)
          have f48 := (f47.wr W38 g_nb34)
          have f49 := (f48.wr W40 g_nb34)
          have f50 := (f49.ext E41)
          refine own_callN X41 hx (y := (⟨"java/lang/String", "<init>", "([C)V"⟩ : MethodName)) rfl hown (mvT hZ (hw _ (List.mem_of_getElem? (i := 8) rfl))) (mvT hZ (hw _ (List.mem_of_getElem? (i := 9) rfl))) (mvT hZ (hw _ (List.mem_of_getElem? (i := 10) rfl))) (by decide) (StrChars.Road.backV (W := 1) hZ (own_words hw) (kI := 4) (hw _ (List.mem_of_getElem? (i := 6) rfl)) (cs := ([(nar .char c39), (81 : Int32), (84 : Int32), (84 : Int32)] : List Int32)) (bs := ([(nar .char c39), (81 : Int32), (84 : Int32), (84 : Int32)] : List Int32).map (fun c => c.toInt8.toInt32)) (n := 4) g_nb41 (Nat.le_trans Z0 K41.1) A41 F41_value F41_coder f43 (Sta.ext f50.2 SC) hCS rfl rfl (by decide) (by decide) hp42 rfl (by decide) (by decide)) (a := nb41) (g := (mkF m 150 #[.val (.int a), .val (.long d), .second, .val (.int (1 : Int32)), .val (.int (0 : Int32)), .val (.int (0 : Int32)), .val (.ref nb34)] [(.ref nb34), (.ref nb41), (.ref nb41)])) rfl (by rw [hml]; rfl) (argsL := [(.ref nb34)]) (rest := [(.ref nb41)]) (lenOf pd_0 rfl) rfl (by show 2 * 0 + _ ≤ _; exact Nat.le_of_eq rfl) (hb hby d2_150) rfl e41 (by decide) (by decide) ?_
          rintro v42 T42 L42 X42 ⟨rfl, Nq42, Kq42, Eq42, Cq42, t42, kb42, g_t42, gt42, nt42, Vq42, Aq42⟩
          have sz_t42 : h0.size ≤ t42 := Nat.le_trans K41.1 gt42
          have N42 := Fr.app N40 Nq42
          have K42 : Keep h0 T42.heap [] := K41.trans Kq42 (allS (Or.inr sz_nb41) all0)
          show own_Go p e below _ T42 (mkF m 153 #[.val (.int a), .val (.long d), .second, .val (.int (1 : Int32)), .val (.int (0 : Int32)), .val (.int (0 : Int32)), .val (.ref nb34)] [(.ref nb41)])
          refine own_retA X42 hx hlk Bd.returns rfl rfl (hb hby d2_153) ?_ (by decide) (by decide)
          show QNa Z h0 n0 _ T42.heap _
          exact ⟨([(nar .char c39), (81 : Int32), (84 : Int32), (84 : Int32)] : List Int32), Nat.le_of_ble_eq_true rfl, nb41, t42, kb42, rfl, N42, K42, sz_nb41, g_nb41, nt42, Eq42, Cq42, Vq42, Aq42, hp42⟩
        · show own_Go p e below _ T38 (mkF m 134 #[.val (.int a), .val (.long d), .second, .val (.int (1 : Int32)), .val (.int (0 : Int32)), .val (.int (1 : Int32)), .val (.ref nb34)] [(.ref nb34)])
          refine own_st (fun t_ k_ => XS.iload X38.here hx rfl (hb hby d2_134) rfl k_) ?_
          show own_Go p e below _ T38 (mkF m 136 #[.val (.int a), .val (.long d), .second, .val (.int (1 : Int32)), .val (.int (0 : Int32)), .val (.int (1 : Int32)), .val (.ref nb34)] [(.int (1 : Int32)), (.ref nb34)])
          refine own_st (fun t_ k_ => XS.iconst X38.here hx rfl (hb hby d2_136) k_) ?_
          show own_Go p e below _ T38 (mkF m 137 #[.val (.int a), .val (.long d), .second, .val (.int (1 : Int32)), .val (.int (0 : Int32)), .val (.int (1 : Int32)), .val (.ref nb34)] [(.int (4 : Int32)), (.int (1 : Int32)), (.ref nb34)])
          refine own_st (fun t_ k_ => Jvm.RoadKit.iremM (g := (mkF m 137 #[.val (.int a), .val (.long d), .second, .val (.int (1 : Int32)), .val (.int (0 : Int32)), .val (.int (1 : Int32)), .val (.ref nb34)] [(.int (4 : Int32)), (.int (1 : Int32)), (.ref nb34)])) X38 hx rfl (hb hby d2_137) rfl (by decide) k_) ?_
          show own_Go p e below _ T38 (mkF m 138 #[.val (.int a), .val (.long d), .second, .val (.int (1 : Int32)), .val (.int (0 : Int32)), .val (.int (1 : Int32)), .val (.ref nb34)] [(.int (1 : Int32)), (.ref nb34)])
          refine own_st (fun t_ k_ => XS.lloadN X38.here hx rfl (hb hby d2_138) rfl k_) ?_
          show own_Go p e below _ T38 (mkF m 139 #[.val (.int a), .val (.long d), .second, .val (.int (1 : Int32)), .val (.int (0 : Int32)), .val (.int (1 : Int32)), .val (.ref nb34)] [(.long d), (.int (1 : Int32)), (.ref nb34)])
          refine own_st (fun t_ k_ => XS.iconst X38.here hx rfl (hb hby d2_139) k_) ?_
          show own_Go p e below _ T38 (mkF m 140 #[.val (.int a), .val (.long d), .second, .val (.int (1 : Int32)), .val (.int (0 : Int32)), .val (.int (1 : Int32)), .val (.ref nb34)] [(.int (0 : Int32)), (.long d), (.int (1 : Int32)), (.ref nb34)])
          refine own_callS X38 hx (y := (⟨"com/example/lean_pubsub/leanpubsub/codec/ProtocolVersionFindPinLaw", "pick", "(JI)C"⟩ : MethodName)) hown (mvT hZ (hw _ (List.mem_of_getElem? (i := 75) rfl))) (mvT hZ (hw _ (List.mem_of_getElem? (i := 76) rfl))) (mvT hZ (hw _ (List.mem_of_getElem? (i := 2) rfl))) (mvT hZ (hw _ (List.mem_of_getElem? (i := 77) rfl))) (by decide) (backOf (W := 2) (rmPK l Z a0 hw [] d (0 : Int32) h38 n0 (Nat.le_trans Z0 K38.1)) hZ (hw _ (List.mem_of_getElem? (i := 77) rfl)) (hw _ (List.mem_of_getElem? (i := 2) rfl)) (by decide) (by decide)) (g := (mkF m 140 #[.val (.int a), .val (.long d), .second, .val (.int (1 : Int32)), .val (.int (0 : Int32)), .val (.int (1 : Int32)), .val (.ref nb34)] [(.int (0 : Int32)), (.long d), (.int (1 : Int32)), (.ref nb34)])) rfl (by rw [hml]; rfl) (argsL := [(.long d), (.int (0 : Int32))]) (rest := [(.int (1 : Int32)), (.ref nb34)]) (lenOf pd_1 rfl) rfl (by show 2 * 0 + _ ≤ _; exact Nat.le_of_eq rfl) (hb hby d2_140) rfl e38 (by decide) (by decide) ?_
          rintro v51 T51 L51 X51 ⟨c51, rfl, Nq51, hh51, lc51⟩
          have N51 := Fr.app N38 Nq51
          show own_Go p e below _ T51 (mkF m 143 #[.val (.int a), .val (.long d), .second, .val (.int (1 : Int32)), .val (.int (0 : Int32)), .val (.int (1 : Int32)), .val (.ref nb34)] [(.int c51), (.int (1 : Int32)), (.ref nb34)])
          obtain ⟨cl52, Ar52, q52, S52, N52', H52, G52⟩ := id V38
          have hin52 : ¬ ((1 : Int32) < 0 ∨ cl52.slots.size ≤ ((1 : Int32)).toNatClampNeg) := inb_of S52 ⟨by decide, by decide⟩
          obtain ⟨T52, h52, X52, e52, W52, st52⟩ := stC X51 hx hZ hh51 Ar52 (j := (1 : Int32)) hin52 (g := (mkF m 143 #[.val (.int a), .val (.long d), .second, .val (.int (1 : Int32)), .val (.int (0 : Int32)), .val (.int (1 : Int32)), .val (.ref nb34)] [(.int c51), (.int (1 : Int32)), (.ref nb34)])) rfl rfl (hb hby d2_143)
          have V52 : Arv Z h52 nb34 k34 .char (4 : Int32) [(.int (77 : Int32)), (.int (nar .char c51)), (.int (84 : Int32)), (.int (84 : Int32))] (.int (0 : Int32)) := Arv.set Ar52 q52 S52 N52' H52 G52 (fits_nar_char _) W52 1 rfl (Nat.le_of_ble_eq_true rfl)
          refine own_st st52 ?_
          have N52 := Fr.snoc X52 N51 g_nb34
          have K52 : Keep h0 h52 [] := K38.wr W52 (Or.inr sz_nb34)
          show own_Go p e below _ T52 (mkF m 144 #[.val (.int a), .val (.long d), .second, .val (.int (1 : Int32)), .val (.int (0 : Int32)), .val (.int (1 : Int32)), .val (.ref nb34)] [])
          obtain ⟨T53, h53, X53, e53, E53, A53, D53, cel53, st53⟩ := newO X52 hx hZ hown (hw _ (List.mem_of_getElem? (i := 5) rfl)) (hw _ (List.mem_of_getElem? (i := 6) rfl)) (hw _ (List.mem_of_getElem? (i := 7) rfl)) e52 (g := (mkF m 144 #[.val (.int a), .val (.long d), .second, .val (.int (1 : Int32)), .val (.int (0 : Int32)), .val (.int (1 : Int32)), .val (.ref nb34)] [])) rfl (hb hby d2_144) (by decide) (by decide)
          obtain ⟨nb53, g53⟩ : ∃ z, z = h52.size := ⟨_, rfl⟩
          rw [← g53] at A53 D53 cel53 st53
          refine own_st st53 ?_
          have g_nb53 : n0 ≤ nb53 := Nat.le_trans (Nat.le_trans Z0 K52.1) (Nat.le_of_eq g53.symm)
          have K53 : Keep h0 h53 [] := K52.ext E53
          have sz_nb53 : h0.size ≤ nb53 := Nat.le_trans K52.1 (Nat.le_of_eq g53.symm)
          have F53_coder : Fld Z h53 nb53 "java/lang/String" "coder" "B" (.int (0 : Int32)) := D53 (Or.inr (hw _ (List.mem_of_getElem? (i := 31) rfl))) (ty := .byte) (by decide)
          have F53_value : Fld Z h53 nb53 "java/lang/String" "value" "[B" .null := D53 (Or.inr (hw _ (List.mem_of_getElem? (i := 33) rfl))) (ty := (.array .byte)) (by decide)
          show own_Go p e below _ T53 (mkF m 147 #[.val (.int a), .val (.long d), .second, .val (.int (1 : Int32)), .val (.int (0 : Int32)), .val (.int (1 : Int32)), .val (.ref nb34)] [(.ref nb53)])
          refine own_st (fun t_ k_ => XS.dup X53.here hx rfl (hb hby d2_147) rfl rfl k_) ?_
          show own_Go p e below _ T53 (mkF m 148 #[.val (.int a), .val (.long d), .second, .val (.int (1 : Int32)), .val (.int (0 : Int32)), .val (.int (1 : Int32)), .val (.ref nb34)] [(.ref nb53), (.ref nb53)])
          refine own_st (fun t_ k_ => XS.aload X53.here hx rfl (hb hby d2_148) rfl rfl k_) ?_
          show own_Go p e below _ T53 (mkF m 150 #[.val (.int a), .val (.long d), .second, .val (.int (1 : Int32)), .val (.int (0 : Int32)), .val (.int (1 : Int32)), .val (.ref nb34)] [(.ref nb34), (.ref nb53), (.ref nb53)])
          have hp54 : ∀ c ∈ ([(77 : Int32), (nar .char c51), (84 : Int32), (84 : Int32)] : List Int32), ¬ c < 0 ∧ ¬ (255 : Int32) < c := (own_lcons ⟨by decide, by decide⟩ (own_lcons (own_LLN lc51) (own_lcons ⟨by decide, by decide⟩ (own_lcons ⟨by decide, by decide⟩ own_lnil))))
          have f55 := (V52.ext E53)
          have f56 := (O0.ext E34)
          have f57 := (f56.wr W35 g_nb34)
          have f58 := (f57.wr W36 g_nb34)
          have f59 := (f58.wr W37 g_nb34)
          have f60 := (f59.wr W38 g_nb34)
          have f61 := (f60.wr W52 g_nb34)
          have f62 := (f61.ext E53)
          refine own_callN X53 hx (y := (⟨"java/lang/String", "<init>", "([C)V"⟩ : MethodName)) rfl hown (mvT hZ (hw _ (List.mem_of_getElem? (i := 8) rfl))) (mvT hZ (hw _ (List.mem_of_getElem? (i := 9) rfl))) (mvT hZ (hw _ (List.mem_of_getElem? (i := 10) rfl))) (by decide) (StrChars.Road.backV (W := 1) hZ (own_words hw) (kI := 4) (hw _ (List.mem_of_getElem? (i := 6) rfl)) (cs := ([(77 : Int32), (nar .char c51), (84 : Int32), (84 : Int32)] : List Int32)) (bs := ([(77 : Int32), (nar .char c51), (84 : Int32), (84 : Int32)] : List Int32).map (fun c => c.toInt8.toInt32)) (n := 4) g_nb53 (Nat.le_trans Z0 K53.1) A53 F53_value F53_coder f55 (Sta.ext f62.2 SC) hCS rfl rfl (by decide) (by decide) hp54 rfl (by decide) (by decide)) (a := nb53) (g := (mkF m 150 #[.val (.int a), .val (.long d), .second, .val (.int (1 : Int32)), .val (.int (0 : Int32)), .val (.int (1 : Int32)), .val (.ref nb34)] [(.ref nb34), (.ref nb53), (.ref nb53)])) rfl (by rw [hml]; rfl) (argsL := [(.ref nb34)]) (rest := [(.ref nb53)]) (lenOf pd_0 rfl) rfl (by show 2 * 0 + _ ≤ _; exact Nat.le_of_eq rfl) (hb hby d2_150) rfl e53 (by decide) (by decide) ?_
          rintro v54 T54 L54 X54 ⟨rfl, Nq54, Kq54, Eq54, Cq54, t54, kb54, g_t54, gt54, nt54, Vq54, Aq54⟩
          have sz_t54 : h0.size ≤ t54 := Nat.le_trans K53.1 gt54
          have N54 := Fr.app N52 Nq54
          have K54 : Keep h0 T54.heap [] := K53.trans Kq54 (allS (Or.inr sz_nb53) all0)
          show own_Go p e below _ T54 (mkF m 153 #[.val (.int a), .val (.long d), .second, .val (.int (1 : Int32)), .val (.int (0 : Int32)), .val (.int (1 : Int32)), .val (.ref nb34)] [(.ref nb53)])
          refine own_retA X54 hx hlk Bd.returns rfl rfl (hb hby d2_153) ?_ (by decide) (by decide)
          show QNa Z h0 n0 _ T54.heap _
          exact ⟨([(77 : Int32), (nar .char c51), (84 : Int32), (84 : Int32)] : List Int32), Nat.le_of_ble_eq_true rfl, nb53, t54, kb54, rfl, N54, K54, sz_nb53, g_nb53, nt54, Eq54, Cq54, Vq54, Aq54, hp54⟩
        · show own_Go p e below _ T38 (mkF m 134 #[.val (.int a), .val (.long d), .second, .val (.int (1 : Int32)), .val (.int (0 : Int32)), .val (.int (2 : Int32)), .val (.ref nb34)] [(.ref nb34)])
          refine own_st (fun t_ k_ => XS.iload X38.here hx rfl (hb hby d2_134) rfl k_) ?_
          show own_Go p e below _ T38 (mkF m 136 #[.val (.int a), .val (.long d), .second, .val (.int (1 : Int32)), .val (.int (0 : Int32)), .val (.int (2 : Int32)), .val (.ref nb34)] [(.int (2 : Int32)), (.ref nb34)])
          refine own_st (fun t_ k_ => XS.iconst X38.here hx rfl (hb hby d2_136) k_) ?_
          show own_Go p e below _ T38 (mkF m 137 #[.val (.int a), .val (.long d), .second, .val (.int (1 : Int32)), .val (.int (0 : Int32)), .val (.int (2 : Int32)), .val (.ref nb34)] [(.int (4 : Int32)), (.int (2 : Int32)), (.ref nb34)])
          refine own_st (fun t_ k_ => Jvm.RoadKit.iremM (g := (mkF m 137 #[.val (.int a), .val (.long d), .second, .val (.int (1 : Int32)), .val (.int (0 : Int32)), .val (.int (2 : Int32)), .val (.ref nb34)] [(.int (4 : Int32)), (.int (2 : Int32)), (.ref nb34)])) X38 hx rfl (hb hby d2_137) rfl (by decide) k_) ?_
          show own_Go p e below _ T38 (mkF m 138 #[.val (.int a), .val (.long d), .second, .val (.int (1 : Int32)), .val (.int (0 : Int32)), .val (.int (2 : Int32)), .val (.ref nb34)] [(.int (2 : Int32)), (.ref nb34)])
          refine own_st (fun t_ k_ => XS.lloadN X38.here hx rfl (hb hby d2_138) rfl k_) ?_
          show own_Go p e below _ T38 (mkF m 139 #[.val (.int a), .val (.long d), .second, .val (.int (1 : Int32)), .val (.int (0 : Int32)), .val (.int (2 : Int32)), .val (.ref nb34)] [(.long d), (.int (2 : Int32)), (.ref nb34)])
          refine own_st (fun t_ k_ => XS.iconst X38.here hx rfl (hb hby d2_139) k_) ?_
          show own_Go p e below _ T38 (mkF m 140 #[.val (.int a), .val (.long d), .second, .val (.int (1 : Int32)), .val (.int (0 : Int32)), .val (.int (2 : Int32)), .val (.ref nb34)] [(.int (0 : Int32)), (.long d), (.int (2 : Int32)), (.ref nb34)])
          refine own_callS X38 hx (y := (⟨"com/example/lean_pubsub/leanpubsub/codec/ProtocolVersionFindPinLaw", "pick", "(JI)C"⟩ : MethodName)) hown (mvT hZ (hw _ (List.mem_of_getElem? (i := 75) rfl))) (mvT hZ (hw _ (List.mem_of_getElem? (i := 76) rfl))) (mvT hZ (hw _ (List.mem_of_getElem? (i := 2) rfl))) (mvT hZ (hw _ (List.mem_of_getElem? (i := 77) rfl))) (by decide) (backOf (W := 2) (rmPK l Z a0 hw [] d (0 : Int32) h38 n0 (Nat.le_trans Z0 K38.1)) hZ (hw _ (List.mem_of_getElem? (i := 77) rfl)) (hw _ (List.mem_of_getElem? (i := 2) rfl)) (by decide) (by decide)) (g := (mkF m 140 #[.val (.int a), .val (.long d), .second, .val (.int (1 : Int32)), .val (.int (0 : Int32)), .val (.int (2 : Int32)), .val (.ref nb34)] [(.int (0 : Int32)), (.long d), (.int (2 : Int32)), (.ref nb34)])) rfl (by rw [hml]; rfl) (argsL := [(.long d), (.int (0 : Int32))]) (rest := [(.int (2 : Int32)), (.ref nb34)]) (lenOf pd_1 rfl) rfl (by show 2 * 0 + _ ≤ _; exact Nat.le_of_eq rfl) (hb hby d2_140) rfl e38 (by decide) (by decide) ?_
          rintro v63 T63 L63 X63 ⟨c63, rfl, Nq63, hh63, lc63⟩
          have N63 := Fr.app N38 Nq63
          show own_Go p e below _ T63 (mkF m 143 #[.val (.int a), .val (.long d), .second, .val (.int (1 : Int32)), .val (.int (0 : Int32)), .val (.int (2 : Int32)), .val (.ref nb34)] [(.int c63), (.int (2 : Int32)), (.ref nb34)])
          obtain ⟨cl64, Ar64, q64, S64, N64', H64, G64⟩ := id V38
          have hin64 : ¬ ((2 : Int32) < 0 ∨ cl64.slots.size ≤ ((2 : Int32)).toNatClampNeg) := inb_of S64 ⟨by decide, by decide⟩
          obtain ⟨T64, h64, X64, e64, W64, st64⟩ := stC X63 hx hZ hh63 Ar64 (j := (2 : Int32)) hin64 (g := (mkF m 143 #[.val (.int a), .val (.long d), .second, .val (.int (1 : Int32)), .val (.int (0 : Int32)), .val (.int (2 : Int32)), .val (.ref nb34)] [(.int c63), (.int (2 : Int32)), (.ref nb34)])) rfl rfl (hb hby d2_143)
          have V64 : Arv Z h64 nb34 k34 .char (4 : Int32) [(.int (77 : Int32)), (.int (81 : Int32)), (.int (nar .char c63)), (.int (84 : Int32))] (.int (0 : Int32)) := Arv.set Ar64 q64 S64 N64' H64 G64 (fits_nar_char _) W64 2 rfl (Nat.le_of_ble_eq_true rfl)
          refine own_st st64 ?_
          have N64 := Fr.snoc X64 N63 g_nb34
          have K64 : Keep h0 h64 [] := K38.wr W64 (Or.inr sz_nb34)
          show own_Go p e below _ T64 (mkF m 144 #[.val (.int a), .val (.long d), .second, .val (.int (1 : Int32)), .val (.int (0 : Int32)), .val (.int (2 : Int32)), .val (.ref nb34)] [])
          obtain ⟨T65, h65, X65, e65, E65, A65, D65, cel65, st65⟩ := newO X64 hx hZ hown (hw _ (List.mem_of_getElem? (i := 5) rfl)) (hw _ (List.mem_of_getElem? (i := 6) rfl)) (hw _ (List.mem_of_getElem? (i := 7) rfl)) e64 (g := (mkF m 144 #[.val (.int a), .val (.long d), .second, .val (.int (1 : Int32)), .val (.int (0 : Int32)), .val (.int (2 : Int32)), .val (.ref nb34)] [])) rfl (hb hby d2_144) (by decide) (by decide)
          obtain ⟨nb65, g65⟩ : ∃ z, z = h64.size := ⟨_, rfl⟩
          rw [← g65] at A65 D65 cel65 st65
          refine own_st st65 ?_
          have g_nb65 : n0 ≤ nb65 := Nat.le_trans (Nat.le_trans Z0 K64.1) (Nat.le_of_eq g65.symm)
          have K65 : Keep h0 h65 [] := K64.ext E65
          have sz_nb65 : h0.size ≤ nb65 := Nat.le_trans K64.1 (Nat.le_of_eq g65.symm)
          have F65_coder : Fld Z h65 nb65 "java/lang/String" "coder" "B" (.int (0 : Int32)) := D65 (Or.inr (hw _ (List.mem_of_getElem? (i := 31) rfl))) (ty := .byte) (by decide)
          have F65_value : Fld Z h65 nb65 "java/lang/String" "value" "[B" .null := D65 (Or.inr (hw _ (List.mem_of_getElem? (i := 33) rfl))) (ty := (.array .byte)) (by decide)
          show own_Go p e below _ T65 (mkF m 147 #[.val (.int a), .val (.long d), .second, .val (.int (1 : Int32)), .val (.int (0 : Int32)), .val (.int (2 : Int32)), .val (.ref nb34)] [(.ref nb65)])
          refine own_st (fun t_ k_ => XS.dup X65.here hx rfl (hb hby d2_147) rfl rfl k_) ?_
          show own_Go p e below _ T65 (mkF m 148 #[.val (.int a), .val (.long d), .second, .val (.int (1 : Int32)), .val (.int (0 : Int32)), .val (.int (2 : Int32)), .val (.ref nb34)] [(.ref nb65), (.ref nb65)])
          refine own_st (fun t_ k_ => XS.aload X65.here hx rfl (hb hby d2_148) rfl rfl k_) ?_
          show own_Go p e below _ T65 (mkF m 150 #[.val (.int a), .val (.long d), .second, .val (.int (1 : Int32)), .val (.int (0 : Int32)), .val (.int (2 : Int32)), .val (.ref nb34)] [(.ref nb34), (.ref nb65), (.ref nb65)])
          have hp66 : ∀ c ∈ ([(77 : Int32), (81 : Int32), (nar .char c63), (84 : Int32)] : List Int32), ¬ c < 0 ∧ ¬ (255 : Int32) < c := (own_lcons ⟨by decide, by decide⟩ (own_lcons ⟨by decide, by decide⟩ (own_lcons (own_LLN lc63) (own_lcons ⟨by decide, by decide⟩ own_lnil))))
          have f67 := (V64.ext E65)
          have f68 := (O0.ext E34)
          have f69 := (f68.wr W35 g_nb34)
          have f70 := (f69.wr W36 g_nb34)
          have f71 := (f70.wr W37 g_nb34)
          have f72 := (f71.wr W38 g_nb34)
          have f73 := (f72.wr W64 g_nb34)
          have f74 := (f73.ext E65)
          refine own_callN X65 hx (y := (⟨"java/lang/String", "<init>", "([C)V"⟩ : MethodName)) rfl hown (mvT hZ (hw _ (List.mem_of_getElem? (i := 8) rfl))) (mvT hZ (hw _ (List.mem_of_getElem? (i := 9) rfl))) (mvT hZ (hw _ (List.mem_of_getElem? (i := 10) rfl))) (by decide) (StrChars.Road.backV (W := 1) hZ (own_words hw) (kI := 4) (hw _ (List.mem_of_getElem? (i := 6) rfl)) (cs := ([(77 : Int32), (81 : Int32), (nar .char c63), (84 : Int32)] : List Int32)) (bs := ([(77 : Int32), (81 : Int32), (nar .char c63), (84 : Int32)] : List Int32).map (fun c => c.toInt8.toInt32)) (n := 4) g_nb65 (Nat.le_trans Z0 K65.1) A65 F65_value F65_coder f67 (Sta.ext f74.2 SC) hCS rfl rfl (by decide) (by decide) hp66 rfl (by decide) (by decide)) (a := nb65) (g := (mkF m 150 #[.val (.int a), .val (.long d), .second, .val (.int (1 : Int32)), .val (.int (0 : Int32)), .val (.int (2 : Int32)), .val (.ref nb34)] [(.ref nb34), (.ref nb65), (.ref nb65)])) rfl (by rw [hml]; rfl) (argsL := [(.ref nb34)]) (rest := [(.ref nb65)]) (lenOf pd_0 rfl) rfl (by show 2 * 0 + _ ≤ _; exact Nat.le_of_eq rfl) (hb hby d2_150) rfl e65 (by decide) (by decide) ?_
          rintro v66 T66 L66 X66 ⟨rfl, Nq66, Kq66, Eq66, Cq66, t66, kb66, g_t66, gt66, nt66, Vq66, Aq66⟩
          have sz_t66 : h0.size ≤ t66 := Nat.le_trans K65.1 gt66
          have N66 := Fr.app N64 Nq66
          have K66 : Keep h0 T66.heap [] := K65.trans Kq66 (allS (Or.inr sz_nb65) all0)
          show own_Go p e below _ T66 (mkF m 153 #[.val (.int a), .val (.long d), .second, .val (.int (1 : Int32)), .val (.int (0 : Int32)), .val (.int (2 : Int32)), .val (.ref nb34)] [(.ref nb65)])
          refine own_retA X66 hx hlk Bd.returns rfl rfl (hb hby d2_153) ?_ (by decide) (by decide)
          show QNa Z h0 n0 _ T66.heap _
          exact ⟨([(77 : Int32), (81 : Int32), (nar .char c63), (84 : Int32)] : List Int32), Nat.le_of_ble_eq_true rfl, nb65, t66, kb66, rfl, N66, K66, sz_nb65, g_nb65, nt66, Eq66, Cq66, Vq66, Aq66, hp66⟩
        · show own_Go p e below _ T38 (mkF m 134 #[.val (.int a), .val (.long d), .second, .val (.int (1 : Int32)), .val (.int (0 : Int32)), .val (.int (3 : Int32)), .val (.ref nb34)] [(.ref nb34)])
          refine own_st (fun t_ k_ => XS.iload X38.here hx rfl (hb hby d2_134) rfl k_) ?_
          show own_Go p e below _ T38 (mkF m 136 #[.val (.int a), .val (.long d), .second, .val (.int (1 : Int32)), .val (.int (0 : Int32)), .val (.int (3 : Int32)), .val (.ref nb34)] [(.int (3 : Int32)), (.ref nb34)])
          refine own_st (fun t_ k_ => XS.iconst X38.here hx rfl (hb hby d2_136) k_) ?_
          show own_Go p e below _ T38 (mkF m 137 #[.val (.int a), .val (.long d), .second, .val (.int (1 : Int32)), .val (.int (0 : Int32)), .val (.int (3 : Int32)), .val (.ref nb34)] [(.int (4 : Int32)), (.int (3 : Int32)), (.ref nb34)])
          refine own_st (fun t_ k_ => Jvm.RoadKit.iremM (g := (mkF m 137 #[.val (.int a), .val (.long d), .second, .val (.int (1 : Int32)), .val (.int (0 : Int32)), .val (.int (3 : Int32)), .val (.ref nb34)] [(.int (4 : Int32)), (.int (3 : Int32)), (.ref nb34)])) X38 hx rfl (hb hby d2_137) rfl (by decide) k_) ?_
          show own_Go p e below _ T38 (mkF m 138 #[.val (.int a), .val (.long d), .second, .val (.int (1 : Int32)), .val (.int (0 : Int32)), .val (.int (3 : Int32)), .val (.ref nb34)] [(.int (3 : Int32)), (.ref nb34)])
          refine own_st (fun t_ k_ => XS.lloadN X38.here hx rfl (hb hby d2_138) rfl k_) ?_
          show own_Go p e below _ T38 (mkF m 139 #[.val (.int a), .val (.long d), .second, .val (.int (1 : Int32)), .val (.int (0 : Int32)), .val (.int (3 : Int32)), .val (.ref nb34)] [(.long d), (.int (3 : Int32)), (.ref nb34)])
          refine own_st (fun t_ k_ => XS.iconst X38.here hx rfl (hb hby d2_139) k_) ?_
          show own_Go p e below _ T38 (mkF m 140 #[.val (.int a), .val (.long d), .second, .val (.int (1 : Int32)), .val (.int (0 : Int32)), .val (.int (3 : Int32)), .val (.ref nb34)] [(.int (0 : Int32)), (.long d), (.int (3 : Int32)), (.ref nb34)])
          refine own_callS X38 hx (y := (⟨"com/example/lean_pubsub/leanpubsub/codec/ProtocolVersionFindPinLaw", "pick", "(JI)C"⟩ : MethodName)) hown (mvT hZ (hw _ (List.mem_of_getElem? (i := 75) rfl))) (mvT hZ (hw _ (List.mem_of_getElem? (i := 76) rfl))) (mvT hZ (hw _ (List.mem_of_getElem? (i := 2) rfl))) (mvT hZ (hw _ (List.mem_of_getElem? (i := 77) rfl))) (by decide) (backOf (W := 2) (rmPK l Z a0 hw [] d (0 : Int32) h38 n0 (Nat.le_trans Z0 K38.1)) hZ (hw _ (List.mem_of_getElem? (i := 77) rfl)) (hw _ (List.mem_of_getElem? (i := 2) rfl)) (by decide) (by decide)) (g := (mkF m 140 #[.val (.int a), .val (.long d), .second, .val (.int (1 : Int32)), .val (.int (0 : Int32)), .val (.int (3 : Int32)), .val (.ref nb34)] [(.int (0 : Int32)), (.long d), (.int (3 : Int32)), (.ref nb34)])) rfl (by rw [hml]; rfl) (argsL := [(.long d), (.int (0 : Int32))]) (rest := [(.int (3 : Int32)), (.ref nb34)]) (lenOf pd_1 rfl) rfl (by show 2 * 0 + _ ≤ _; exact Nat.le_of_eq rfl) (hb hby d2_140) rfl e38 (by decide) (by decide) ?_
          rintro v75 T75 L75 X75 ⟨c75, rfl, Nq75, hh75, lc75⟩
          have N75 := Fr.app N38 Nq75
          show own_Go p e below _ T75 (mkF m 143 #[.val (.int a), .val (.long d), .second, .val (.int (1 : Int32)), .val (.int (0 : Int32)), .val (.int (3 : Int32)), .val (.ref nb34)] [(.int c75), (.int (3 : Int32)), (.ref nb34)])
          obtain ⟨cl76, Ar76, q76, S76, N76', H76, G76⟩ := id V38
          have hin76 : ¬ ((3 : Int32) < 0 ∨ cl76.slots.size ≤ ((3 : Int32)).toNatClampNeg) := inb_of S76 ⟨by decide, by decide⟩
          obtain ⟨T76, h76, X76, e76, W76, st76⟩ := stC X75 hx hZ hh75 Ar76 (j := (3 : Int32)) hin76 (g := (mkF m 143 #[.val (.int a), .val (.long d), .second, .val (.int (1 : Int32)), .val (.int (0 : Int32)), .val (.int (3 : Int32)), .val (.ref nb34)] [(.int c75), (.int (3 : Int32)), (.ref nb34)])) rfl rfl (hb hby d2_143)
          have V76 : Arv Z h76 nb34 k34 .char (4 : Int32) [(.int (77 : Int32)), (.int (81 : Int32)), (.int (84 : Int32)), (.int (nar .char c75))] (.int (0 : Int32)) := Arv.set Ar76 q76 S76 N76' H76 G76 (fits_nar_char _) W76 3 rfl (Nat.le_of_ble_eq_true rfl)
          refine own_st st76 ?_
          have N76 := Fr.snoc X76 N75 g_nb34
          have K76 : Keep h0 h76 [] := K38.wr W76 (Or.inr sz_nb34)
          show own_Go p e below _ T76 (mkF m 144 #[.val (.int a), .val (.long d), .second, .val (.int (1 : Int32)), .val (.int (0 : Int32)), .val (.int (3 : Int32)), .val (.ref nb34)] [])
          obtain ⟨T77, h77, X77, e77, E77, A77, D77, cel77, st77⟩ := newO X76 hx hZ hown (hw _ (List.mem_of_getElem? (i := 5) rfl)) (hw _ (List.mem_of_getElem? (i := 6) rfl)) (hw _ (List.mem_of_getElem? (i := 7) rfl)) e76 (g := (mkF m 144 #[.val (.int a), .val (.long d), .second, .val (.int (1 : Int32)), .val (.int (0 : Int32)), .val (.int (3 : Int32)), .val (.ref nb34)] [])) rfl (hb hby d2_144) (by decide) (by decide)
          obtain ⟨nb77, g77⟩ : ∃ z, z = h76.size := ⟨_, rfl⟩
          rw [← g77] at A77 D77 cel77 st77
          refine own_st st77 ?_
          have g_nb77 : n0 ≤ nb77 := Nat.le_trans (Nat.le_trans Z0 K76.1) (Nat.le_of_eq g77.symm)
          have K77 : Keep h0 h77 [] := K76.ext E77
          have sz_nb77 : h0.size ≤ nb77 := Nat.le_trans K76.1 (Nat.le_of_eq g77.symm)
          have F77_coder : Fld Z h77 nb77 "java/lang/String" "coder" "B" (.int (0 : Int32)) := D77 (Or.inr (hw _ (List.mem_of_getElem? (i := 31) rfl))) (ty := .byte) (by decide)
          have F77_value : Fld Z h77 nb77 "java/lang/String" "value" "[B" .null := D77 (Or.inr (hw _ (List.mem_of_getElem? (i := 33) rfl))) (ty := (.array .byte)) (by decide)
          show own_Go p e below _ T77 (mkF m 147 #[.val (.int a), .val (.long d), .second, .val (.int (1 : Int32)), .val (.int (0 : Int32)), .val (.int (3 : Int32)), .val (.ref nb34)] [(.ref nb77)])
          refine own_st (fun t_ k_ => XS.dup X77.here hx rfl (hb hby d2_147) rfl rfl k_) ?_
          show own_Go p e below _ T77 (mkF m 148 #[.val (.int a), .val (.long d), .second, .val (.int (1 : Int32)), .val (.int (0 : Int32)), .val (.int (3 : Int32)), .val (.ref nb34)] [(.ref nb77), (.ref nb77)])
          refine own_st (fun t_ k_ => XS.aload X77.here hx rfl (hb hby d2_148) rfl rfl k_) ?_
          show own_Go p e below _ T77 (mkF m 150 #[.val (.int a), .val (.long d), .second, .val (.int (1 : Int32)), .val (.int (0 : Int32)), .val (.int (3 : Int32)), .val (.ref nb34)] [(.ref nb34), (.ref nb77), (.ref nb77)])
          have hp78 : ∀ c ∈ ([(77 : Int32), (81 : Int32), (84 : Int32), (nar .char c75)] : List Int32), ¬ c < 0 ∧ ¬ (255 : Int32) < c := (own_lcons ⟨by decide, by decide⟩ (own_lcons ⟨by decide, by decide⟩ (own_lcons ⟨by decide, by decide⟩ (own_lcons (own_LLN lc75) own_lnil))))
          have f79 := (V76.ext E77)
          have f80 := (O0.ext E34)
          have f81 := (f80.wr W35 g_nb34)
          have f82 := (f81.wr W36 g_nb34)
          have f83 := (f82.wr W37 g_nb34)
          have f84 := (f83.wr W38 g_nb34)
          have f85 := (f84.wr W76 g_nb34)
          have f86 := (f85.ext E77)
          refine own_callN X77 hx (y := (⟨"java/lang/String", "<init>", "([C)V"⟩ : MethodName)) rfl hown (mvT hZ (hw _ (List.mem_of_getElem? (i := 8) rfl))) (mvT hZ (hw _ (List.mem_of_getElem? (i := 9) rfl))) (mvT hZ (hw _ (List.mem_of_getElem? (i := 10) rfl))) (by decide) (StrChars.Road.backV (W := 1) hZ (own_words hw) (kI := 4) (hw _ (List.mem_of_getElem? (i := 6) rfl)) (cs := ([(77 : Int32), (81 : Int32), (84 : Int32), (nar .char c75)] : List Int32)) (bs := ([(77 : Int32), (81 : Int32), (84 : Int32), (nar .char c75)] : List Int32).map (fun c => c.toInt8.toInt32)) (n := 4) g_nb77 (Nat.le_trans Z0 K77.1) A77 F77_value F77_coder f79 (Sta.ext f86.2 SC) hCS rfl rfl (by decide) (by decide) hp78 rfl (by decide) (by decide)) (a := nb77) (g := (mkF m 150 #[.val (.int a), .val (.long d), .second, .val (.int (1 : Int32)), .val (.int (0 : Int32)), .val (.int (3 : Int32)), .val (.ref nb34)] [(.ref nb34), (.ref nb77), (.ref nb77)])) rfl (by rw [hml]; rfl) (argsL := [(.ref nb34)]) (rest := [(.ref nb77)]) (lenOf pd_0 rfl) rfl (by show 2 * 0 + _ ≤ _; exact Nat.le_of_eq rfl) (hb hby d2_150) rfl e77 (by decide) (by decide) ?_
          rintro v78 T78 L78 X78 ⟨rfl, Nq78, Kq78, Eq78, Cq78, t78, kb78, g_t78, gt78, nt78, Vq78, Aq78⟩
          have sz_t78 : h0.size ≤ t78 := Nat.le_trans K77.1 gt78
          have N78 := Fr.app N76 Nq78
          have K78 : Keep h0 T78.heap [] := K77.trans Kq78 (allS (Or.inr sz_nb77) all0)
          show own_Go p e below _ T78 (mkF m 153 #[.val (.int a), .val (.long d), .second, .val (.int (1 : Int32)), .val (.int (0 : Int32)), .val (.int (3 : Int32)), .val (.ref nb34)] [(.ref nb77)])
          refine own_retA X78 hx hlk Bd.returns rfl rfl (hb hby d2_153) ?_ (by decide) (by decide)
          show QNa Z h0 n0 _ T78.heap _
          exact ⟨([(77 : Int32), (81 : Int32), (84 : Int32), (nar .char c75)] : List Int32), Nat.le_of_ble_eq_true rfl, nb77, t78, kb78, rfl, N78, K78, sz_nb77, g_nb77, nt78, Eq78, Cq78, Vq78, Aq78, hp78⟩
        · show own_Go p e below _ T38 (mkF m 134 #[.val (.int a), .val (.long d), .second, .val (.int (1 : Int32)), .val (.int (0 : Int32)), .val (.int (4 : Int32)), .val (.ref nb34)] [(.ref nb34)])
          refine own_st (fun t_ k_ => XS.iload X38.here hx rfl (hb hby d2_134) rfl k_) ?_
          show own_Go p e below _ T38 (mkF m 136 #[.val (.int a), .val (.long d), .second, .val (.int (1 : Int32)), .val (.int (0 : Int32)), .val (.int (4 : Int32)), .val (.ref nb34)] [(.int (4 : Int32)), (.ref nb34)])
          refine own_st (fun t_ k_ => XS.iconst X38.here hx rfl (hb hby d2_136) k_) ?_
          show own_Go p e below _ T38 (mkF m 137 #[.val (.int a), .val (.long d), .second, .val (.int (1 : Int32)), .val (.int (0 : Int32)), .val (.int (4 : Int32)), .val (.ref nb34)] [(.int (4 : Int32)), (.int (4 : Int32)), (.ref nb34)])
          refine own_st (fun t_ k_ => Jvm.RoadKit.iremM (g := (mkF m 137 #[.val (.int a), .val (.long d), .second, .val (.int (1 : Int32)), .val (.int (0 : Int32)), .val (.int (4 : Int32)), .val (.ref nb34)] [(.int (4 : Int32)), (.int (4 : Int32)), (.ref nb34)])) X38 hx rfl (hb hby d2_137) rfl (by decide) k_) ?_
          show own_Go p e below _ T38 (mkF m 138 #[.val (.int a), .val (.long d), .second, .val (.int (1 : Int32)), .val (.int (0 : Int32)), .val (.int (4 : Int32)), .val (.ref nb34)] [(.int (0 : Int32)), (.ref nb34)])
          refine own_st (fun t_ k_ => XS.lloadN X38.here hx rfl (hb hby d2_138) rfl k_) ?_
          show own_Go p e below _ T38 (mkF m 139 #[.val (.int a), .val (.long d), .second, .val (.int (1 : Int32)), .val (.int (0 : Int32)), .val (.int (4 : Int32)), .val (.ref nb34)] [(.long d), (.int (0 : Int32)), (.ref nb34)])
          refine own_st (fun t_ k_ => XS.iconst X38.here hx rfl (hb hby d2_139) k_) ?_
          show own_Go p e below _ T38 (mkF m 140 #[.val (.int a), .val (.long d), .second, .val (.int (1 : Int32)), .val (.int (0 : Int32)), .val (.int (4 : Int32)), .val (.ref nb34)] [(.int (0 : Int32)), (.long d), (.int (0 : Int32)), (.ref nb34)])
          refine own_callS X38 hx (y := (⟨"com/example/lean_pubsub/leanpubsub/codec/ProtocolVersionFindPinLaw", "pick", "(JI)C"⟩ : MethodName)) hown (mvT hZ (hw _ (List.mem_of_getElem? (i := 75) rfl))) (mvT hZ (hw _ (List.mem_of_getElem? (i := 76) rfl))) (mvT hZ (hw _ (List.mem_of_getElem? (i := 2) rfl))) (mvT hZ (hw _ (List.mem_of_getElem? (i := 77) rfl))) (by decide) (backOf (W := 2) (rmPK l Z a0 hw [] d (0 : Int32) h38 n0 (Nat.le_trans Z0 K38.1)) hZ (hw _ (List.mem_of_getElem? (i := 77) rfl)) (hw _ (List.mem_of_getElem? (i := 2) rfl)) (by decide) (by decide)) (g := (mkF m 140 #[.val (.int a), .val (.long d), .second, .val (.int (1 : Int32)), .val (.int (0 : Int32)), .val (.int (4 : Int32)), .val (.ref nb34)] [(.int (0 : Int32)), (.long d), (.int (0 : Int32)), (.ref nb34)])) rfl (by rw [hml]; rfl) (argsL := [(.long d), (.int (0 : Int32))]) (rest := [(.int (0 : Int32)), (.ref nb34)]) (lenOf pd_1 rfl) rfl (by show 2 * 0 + _ ≤ _; exact Nat.le_of_eq rfl) (hb hby d2_140) rfl e38 (by decide) (by decide) ?_
          rintro v87 T87 L87 X87 ⟨c87, rfl, Nq87, hh87, lc87⟩
          have N87 := Fr.app N38 Nq87
          show own_Go p e below _ T87 (mkF m 143 #[.val (.int a), .val (.long d), .second, .val (.int (1 : Int32)), .val (.int (0 : Int32)), .val (.int (4 : Int32)), .val (.ref nb34)] [(.int c87), (.int (0 : Int32)), (.ref nb34)])
          obtain ⟨cl88, Ar88, q88, S88, N88', H88, G88⟩ := id V38
          have hin88 : ¬ ((0 : Int32) < 0 ∨ cl88.slots.size ≤ ((0 : Int32)).toNatClampNeg) := inb_of S88 ⟨by decide, by decide⟩
          obtain ⟨T88, h88, X88, e88, W88, st88⟩ := stC X87 hx hZ hh87 Ar88 (j := (0 : Int32)) hin88 (g := (mkF m 143 #[.val (.int a), .val (.long d), .second, .val (.int (1 : Int32)), .val (.int (0 : Int32)), .val (.int (4 : Int32)), .val (.ref nb34)] [(.int c87), (.int (0 : Int32)), (.ref nb34)])) rfl rfl (hb hby d2_143)
          have V88 : Arv Z h88 nb34 k34 .char (4 : Int32) [(.int (nar .char c87)), (.int (81 : Int32)), (.int (84 : Int32)), (.int (84 : Int32))] (.int (0 : Int32)) := Arv.set Ar88 q88 S88 N88' H88 G88 (fits_nar_char _) W88 0 rfl (Nat.le_of_ble_eq_true rfl)
          refine own_st st88 ?_
          have N88 := Fr.snoc X88 N87 g_nb34
          have K88 : Keep h0 h88 [] := K38.wr W88 (Or.inr sz_nb34)
          show own_Go p e below _ T88 (mkF m 144 #[.val (.int a), .val (.long d), .second, .val (.int (1 : Int32)), .val (.int (0 : Int32)), .val (.int (4 : Int32)), .val (.ref nb34)] [])
          obtain ⟨T89, h89, X89, e89, E89, A89, D89, cel89, st89⟩ := newO X88 hx hZ hown (hw _ (List.mem_of_getElem? (i := 5) rfl)) (hw _ (List.mem_of_getElem? (i := 6) rfl)) (hw _ (List.mem_of_getElem? (i := 7) rfl)) e88 (g := (mkF m 144 #[.val (.int a), .val (.long d), .second, .val (.int (1 : Int32)), .val (.int (0 : Int32)), .val (.int (4 : Int32)), .val (.ref nb34)] [])) rfl (hb hby d2_144) (by decide) (by decide)
          obtain ⟨nb89, g89⟩ : ∃ z, z = h88.size := ⟨_, rfl⟩
          rw [← g89] at A89 D89 cel89 st89
          refine own_st st89 ?_
          have g_nb89 : n0 ≤ nb89 := Nat.le_trans (Nat.le_trans Z0 K88.1) (Nat.le_of_eq g89.symm)
          have K89 : Keep h0 h89 [] := K88.ext E89
          have sz_nb89 : h0.size ≤ nb89 := Nat.le_trans K88.1 (Nat.le_of_eq g89.symm)
          have F89_coder : Fld Z h89 nb89 "java/lang/String" "coder" "B" (.int (0 : Int32)) := D89 (Or.inr (hw _ (List.mem_of_getElem? (i := 31) rfl))) (ty := .byte) (by decide)
          have F89_value : Fld Z h89 nb89 "java/lang/String" "value" "[B" .null := D89 (Or.inr (hw _ (List.mem_of_getElem? (i := 33) rfl))) (ty := (.array .byte)) (by decide)
          show own_Go p e below _ T89 (mkF m 147 #[.val (.int a), .val (.long d), .second, .val (.int (1 : Int32)), .val (.int (0 : Int32)), .val (.int (4 : Int32)), .val (.ref nb34)] [(.ref nb89)])
          refine own_st (fun t_ k_ => XS.dup X89.here hx rfl (hb hby d2_147) rfl rfl k_) ?_
          show own_Go p e below _ T89 (mkF m 148 #[.val (.int a), .val (.long d), .second, .val (.int (1 : Int32)), .val (.int (0 : Int32)), .val (.int (4 : Int32)), .val (.ref nb34)] [(.ref nb89), (.ref nb89)])
          refine own_st (fun t_ k_ => XS.aload X89.here hx rfl (hb hby d2_148) rfl rfl k_) ?_
          show own_Go p e below _ T89 (mkF m 150 #[.val (.int a), .val (.long d), .second, .val (.int (1 : Int32)), .val (.int (0 : Int32)), .val (.int (4 : Int32)), .val (.ref nb34)] [(.ref nb34), (.ref nb89), (.ref nb89)])
          have hp90 : ∀ c ∈ ([(nar .char c87), (81 : Int32), (84 : Int32), (84 : Int32)] : List Int32), ¬ c < 0 ∧ ¬ (255 : Int32) < c := (own_lcons (own_LLN lc87) (own_lcons ⟨by decide, by decide⟩ (own_lcons ⟨by decide, by decide⟩ (own_lcons ⟨by decide, by decide⟩ own_lnil))))
          have f91 := (V88.ext E89)
          have f92 := (O0.ext E34)
          have f93 := (f92.wr W35 g_nb34)
          have f94 := (f93.wr W36 g_nb34)
          have f95 := (f94.wr W37 g_nb34)
          have f96 := (f95.wr W38 g_nb34)
          have f97 := (f96.wr W88 g_nb34)
          have f98 := (f97.ext E89)
          refine own_callN X89 hx (y := (⟨"java/lang/String", "<init>", "([C)V"⟩ : MethodName)) rfl hown (mvT hZ (hw _ (List.mem_of_getElem? (i := 8) rfl))) (mvT hZ (hw _ (List.mem_of_getElem? (i := 9) rfl))) (mvT hZ (hw _ (List.mem_of_getElem? (i := 10) rfl))) (by decide) (StrChars.Road.backV (W := 1) hZ (own_words hw) (kI := 4) (hw _ (List.mem_of_getElem? (i := 6) rfl)) (cs := ([(nar .char c87), (81 : Int32), (84 : Int32), (84 : Int32)] : List Int32)) (bs := ([(nar .char c87), (81 : Int32), (84 : Int32), (84 : Int32)] : List Int32).map (fun c => c.toInt8.toInt32)) (n := 4) g_nb89 (Nat.le_trans Z0 K89.1) A89 F89_value F89_coder f91 (Sta.ext f98.2 SC) hCS rfl rfl (by decide) (by decide) hp90 rfl (by decide) (by decide)) (a := nb89) (g := (mkF m 150 #[.val (.int a), .val (.long d), .second, .val (.int (1 : Int32)), .val (.int (0 : Int32)), .val (.int (4 : Int32)), .val (.ref nb34)] [(.ref nb34), (.ref nb89), (.ref nb89)])) rfl (by rw [hml]; rfl) (argsL := [(.ref nb34)]) (rest := [(.ref nb89)]) (lenOf pd_0 rfl) rfl (by show 2 * 0 + _ ≤ _; exact Nat.le_of_eq rfl) (hb hby d2_150) rfl e89 (by decide) (by decide) ?_
          rintro v90 T90 L90 X90 ⟨rfl, Nq90, Kq90, Eq90, Cq90, t90, kb90, g_t90, gt90, nt90, Vq90, Aq90⟩
          have sz_t90 : h0.size ≤ t90 := Nat.le_trans K89.1 gt90
          have N90 := Fr.app N88 Nq90
          have K90 : Keep h0 T90.heap [] := K89.trans Kq90 (allS (Or.inr sz_nb89) all0)
          show own_Go p e below _ T90 (mkF m 153 #[.val (.int a), .val (.long d), .second, .val (.int (1 : Int32)), .val (.int (0 : Int32)), .val (.int (4 : Int32)), .val (.ref nb34)] [(.ref nb89)])
          refine own_retA X90 hx hlk Bd.returns rfl rfl (hb hby d2_153) ?_ (by decide) (by decide)
          show QNa Z h0 n0 _ T90.heap _
          exact ⟨([(nar .char c87), (81 : Int32), (84 : Int32), (84 : Int32)] : List Int32), Nat.le_of_ble_eq_true rfl, nb89, t90, kb90, rfl, N90, K90, sz_nb89, g_nb89, nt90, Eq90, Cq90, Vq90, Aq90, hp90⟩
        · show own_Go p e below _ T38 (mkF m 134 #[.val (.int a), .val (.long d), .second, .val (.int (1 : Int32)), .val (.int (0 : Int32)), .val (.int (5 : Int32)), .val (.ref nb34)] [(.ref nb34)])
          refine own_st (fun t_ k_ => XS.iload X38.here hx rfl (hb hby d2_134) rfl k_) ?_
          show own_Go p e below _ T38 (mkF m 136 #[.val (.int a), .val (.long d), .second, .val (.int (1 : Int32)), .val (.int (0 : Int32)), .val (.int (5 : Int32)), .val (.ref nb34)] [(.int (5 : Int32)), (.ref nb34)])
          refine own_st (fun t_ k_ => XS.iconst X38.here hx rfl (hb hby d2_136) k_) ?_
          show own_Go p e below _ T38 (mkF m 137 #[.val (.int a), .val (.long d), .second, .val (.int (1 : Int32)), .val (.int (0 : Int32)), .val (.int (5 : Int32)), .val (.ref nb34)] [(.int (4 : Int32)), (.int (5 : Int32)), (.ref nb34)])
          refine own_st (fun t_ k_ => Jvm.RoadKit.iremM (g := (mkF m 137 #[.val (.int a), .val (.long d), .second, .val (.int (1 : Int32)), .val (.int (0 : Int32)), .val (.int (5 : Int32)), .val (.ref nb34)] [(.int (4 : Int32)), (.int (5 : Int32)), (.ref nb34)])) X38 hx rfl (hb hby d2_137) rfl (by decide) k_) ?_
          show own_Go p e below _ T38 (mkF m 138 #[.val (.int a), .val (.long d), .second, .val (.int (1 : Int32)), .val (.int (0 : Int32)), .val (.int (5 : Int32)), .val (.ref nb34)] [(.int (1 : Int32)), (.ref nb34)])
          refine own_st (fun t_ k_ => XS.lloadN X38.here hx rfl (hb hby d2_138) rfl k_) ?_
          show own_Go p e below _ T38 (mkF m 139 #[.val (.int a), .val (.long d), .second, .val (.int (1 : Int32)), .val (.int (0 : Int32)), .val (.int (5 : Int32)), .val (.ref nb34)] [(.long d), (.int (1 : Int32)), (.ref nb34)])
          refine own_st (fun t_ k_ => XS.iconst X38.here hx rfl (hb hby d2_139) k_) ?_
          show own_Go p e below _ T38 (mkF m 140 #[.val (.int a), .val (.long d), .second, .val (.int (1 : Int32)), .val (.int (0 : Int32)), .val (.int (5 : Int32)), .val (.ref nb34)] [(.int (0 : Int32)), (.long d), (.int (1 : Int32)), (.ref nb34)])
          refine own_callS X38 hx (y := (⟨"com/example/lean_pubsub/leanpubsub/codec/ProtocolVersionFindPinLaw", "pick", "(JI)C"⟩ : MethodName)) hown (mvT hZ (hw _ (List.mem_of_getElem? (i := 75) rfl))) (mvT hZ (hw _ (List.mem_of_getElem? (i := 76) rfl))) (mvT hZ (hw _ (List.mem_of_getElem? (i := 2) rfl))) (mvT hZ (hw _ (List.mem_of_getElem? (i := 77) rfl))) (by decide) (backOf (W := 2) (rmPK l Z a0 hw [] d (0 : Int32) h38 n0 (Nat.le_trans Z0 K38.1)) hZ (hw _ (List.mem_of_getElem? (i := 77) rfl)) (hw _ (List.mem_of_getElem? (i := 2) rfl)) (by decide) (by decide)) (g := (mkF m 140 #[.val (.int a), .val (.long d), .second, .val (.int (1 : Int32)), .val (.int (0 : Int32)), .val (.int (5 : Int32)), .val (.ref nb34)] [(.int (0 : Int32)), (.long d), (.int (1 : Int32)), (.ref nb34)])) rfl (by rw [hml]; rfl) (argsL := [(.long d), (.int (0 : Int32))]) (rest := [(.int (1 : Int32)), (.ref nb34)]) (lenOf pd_1 rfl) rfl (by show 2 * 0 + _ ≤ _; exact Nat.le_of_eq rfl) (hb hby d2_140) rfl e38 (by decide) (by decide) ?_
          rintro v99 T99 L99 X99 ⟨c99, rfl, Nq99, hh99, lc99⟩
          have N99 := Fr.app N38 Nq99
          show own_Go p e below _ T99 (mkF m 143 #[.val (.int a), .val (.long d), .second, .val (.int (1 : Int32)), .val (.int (0 : Int32)), .val (.int (5 : Int32)), .val (.ref nb34)] [(.int c99), (.int (1 : Int32)), (.ref nb34)])
          obtain ⟨cl100, Ar100, q100, S100, N100', H100, G100⟩ := id V38
          have hin100 : ¬ ((1 : Int32) < 0 ∨ cl100.slots.size ≤ ((1 : Int32)).toNatClampNeg) := inb_of S100 ⟨by decide, by decide⟩
          obtain ⟨T100, h100, X100, e100, W100, st100⟩ := stC X99 hx hZ hh99 Ar100 (j := (1 : Int32)) hin100 (g := (mkF m 143 #[.val (.int a), .val (.long d), .second, .val (.int (1 : Int32)), .val (.int (0 : Int32)), .val (.int (5 : Int32)), .val (.ref nb34)] [(.int c99), (.int (1 : Int32)), (.ref nb34)])) rfl rfl (hb hby d2_143)
          have V100 : Arv Z h100 nb34 k34 .char (4 : Int32) [(.int (77 : Int32)), (.int (nar .char c99)), (.int (84 : Int32)), (.int (84 : Int32))] (.int (0 : Int32)) := Arv.set Ar100 q100 S100 N100' H100 G100 (fits_nar_char _) W100 1 rfl (Nat.le_of_ble_eq_true rfl)
          refine own_st st100 ?_
          have N100 := Fr.snoc X100 N99 g_nb34
          have K100 : Keep h0 h100 [] := K38.wr W100 (Or.inr sz_nb34)
          show own_Go p e below _ T100 (mkF m 144 #[.val (.int a), .val (.long d), .second, .val (.int (1 : Int32)), .val (.int (0 : Int32)), .val (.int (5 : Int32)), .val (.ref nb34)] [])
          obtain ⟨T101, h101, X101, e101, E101, A101, D101, cel101, st101⟩ := newO X100 hx hZ hown (hw _ (List.mem_of_getElem? (i := 5) rfl)) (hw _ (List.mem_of_getElem? (i := 6) rfl)) (hw _ (List.mem_of_getElem? (i := 7) rfl)) e100 (g := (mkF m 144 #[.val (.int a), .val (.long d), .second, .val (.int (1 : Int32)), .val (.int (0 : Int32)), .val (.int (5 : Int32)), .val (.ref nb34)] [])) rfl (hb hby d2_144) (by decide) (by decide)
          obtain ⟨nb101, g101⟩ : ∃ z, z = h100.size := ⟨_, rfl⟩
          rw [← g101] at A101 D101 cel101 st101
          refine own_st st101 ?_
          have g_nb101 : n0 ≤ nb101 := Nat.le_trans (Nat.le_trans Z0 K100.1) (Nat.le_of_eq g101.symm)
          have K101 : Keep h0 h101 [] := K100.ext E101
          have sz_nb101 : h0.size ≤ nb101 := Nat.le_trans K100.1 (Nat.le_of_eq g101.symm)
          have F101_coder : Fld Z h101 nb101 "java/lang/String" "coder" "B" (.int (0 : Int32)) := D101 (Or.inr (hw _ (List.mem_of_getElem? (i := 31) rfl))) (ty := .byte) (by decide)
          have F101_value : Fld Z h101 nb101 "java/lang/String" "value" "[B" .null := D101 (Or.inr (hw _ (List.mem_of_getElem? (i := 33) rfl))) (ty := (.array .byte)) (by decide)
          show own_Go p e below _ T101 (mkF m 147 #[.val (.int a), .val (.long d), .second, .val (.int (1 : Int32)), .val (.int (0 : Int32)), .val (.int (5 : Int32)), .val (.ref nb34)] [(.ref nb101)])
          refine own_st (fun t_ k_ => XS.dup X101.here hx rfl (hb hby d2_147) rfl rfl k_) ?_
          show own_Go p e below _ T101 (mkF m 148 #[.val (.int a), .val (.long d), .second, .val (.int (1 : Int32)), .val (.int (0 : Int32)), .val (.int (5 : Int32)), .val (.ref nb34)] [(.ref nb101), (.ref nb101)])
          refine own_st (fun t_ k_ => XS.aload X101.here hx rfl (hb hby d2_148) rfl rfl k_) ?_
          show own_Go p e below _ T101 (mkF m 150 #[.val (.int a), .val (.long d), .second, .val (.int (1 : Int32)), .val (.int (0 : Int32)), .val (.int (5 : Int32)), .val (.ref nb34)] [(.ref nb34), (.ref nb101), (.ref nb101)])
          have hp102 : ∀ c ∈ ([(77 : Int32), (nar .char c99), (84 : Int32), (84 : Int32)] : List Int32), ¬ c < 0 ∧ ¬ (255 : Int32) < c := (own_lcons ⟨by decide, by decide⟩ (own_lcons (own_LLN lc99) (own_lcons ⟨by decide, by decide⟩ (own_lcons ⟨by decide, by decide⟩ own_lnil))))
          have f103 := (V100.ext E101)
          have f104 := (O0.ext E34)
          have f105 := (f104.wr W35 g_nb34)
          have f106 := (f105.wr W36 g_nb34)
          have f107 := (f106.wr W37 g_nb34)
          have f108 := (f107.wr W38 g_nb34)
          have f109 := (f108.wr W100 g_nb34)
          have f110 := (f109.ext E101)
          refine own_callN X101 hx (y := (⟨"java/lang/String", "<init>", "([C)V"⟩ : MethodName)) rfl hown (mvT hZ (hw _ (List.mem_of_getElem? (i := 8) rfl))) (mvT hZ (hw _ (List.mem_of_getElem? (i := 9) rfl))) (mvT hZ (hw _ (List.mem_of_getElem? (i := 10) rfl))) (by decide) (StrChars.Road.backV (W := 1) hZ (own_words hw) (kI := 4) (hw _ (List.mem_of_getElem? (i := 6) rfl)) (cs := ([(77 : Int32), (nar .char c99), (84 : Int32), (84 : Int32)] : List Int32)) (bs := ([(77 : Int32), (nar .char c99), (84 : Int32), (84 : Int32)] : List Int32).map (fun c => c.toInt8.toInt32)) (n := 4) g_nb101 (Nat.le_trans Z0 K101.1) A101 F101_value F101_coder f103 (Sta.ext f110.2 SC) hCS rfl rfl (by decide) (by decide) hp102 rfl (by decide) (by decide)) (a := nb101) (g := (mkF m 150 #[.val (.int a), .val (.long d), .second, .val (.int (1 : Int32)), .val (.int (0 : Int32)), .val (.int (5 : Int32)), .val (.ref nb34)] [(.ref nb34), (.ref nb101), (.ref nb101)])) rfl (by rw [hml]; rfl) (argsL := [(.ref nb34)]) (rest := [(.ref nb101)]) (lenOf pd_0 rfl) rfl (by show 2 * 0 + _ ≤ _; exact Nat.le_of_eq rfl) (hb hby d2_150) rfl e101 (by decide) (by decide) ?_
          rintro v102 T102 L102 X102 ⟨rfl, Nq102, Kq102, Eq102, Cq102, t102, kb102, g_t102, gt102, nt102, Vq102, Aq102⟩
          have sz_t102 : h0.size ≤ t102 := Nat.le_trans K101.1 gt102
          have N102 := Fr.app N100 Nq102
          have K102 : Keep h0 T102.heap [] := K101.trans Kq102 (allS (Or.inr sz_nb101) all0)
          show own_Go p e below _ T102 (mkF m 153 #[.val (.int a), .val (.long d), .second, .val (.int (1 : Int32)), .val (.int (0 : Int32)), .val (.int (5 : Int32)), .val (.ref nb34)] [(.ref nb101)])
          refine own_retA X102 hx hlk Bd.returns rfl rfl (hb hby d2_153) ?_ (by decide) (by decide)
          show QNa Z h0 n0 _ T102.heap _
          exact ⟨([(77 : Int32), (nar .char c99), (84 : Int32), (84 : Int32)] : List Int32), Nat.le_of_ble_eq_true rfl, nb101, t102, kb102, rfl, N102, K102, sz_nb101, g_nb101, nt102, Eq102, Cq102, Vq102, Aq102, hp102⟩
      · show own_Go p e below _ s₁ (mkF m 38 #[.val (.int a), .val (.long d), .second, .val (.int (1 : Int32)), .val (.int (1 : Int32)), .val (.int ps), .unset] [(.int (1 : Int32))])
        refine own_st (fun t_ k_ => XS.ifNo X0.here hx rfl (hb hby d2_38) rfl (by decide) k_) ?_
        show own_Go p e below _ s₁ (mkF m 41 #[.val (.int a), .val (.long d), .second, .val (.int (1 : Int32)), .val (.int (1 : Int32)), .val (.int ps), .unset] [])
        refine own_st (fun t_ k_ => XS.bipush X0.here hx rfl (hb hby d2_41) k_) ?_
        show own_Go p e below _ s₁ (mkF m 43 #[.val (.int a), .val (.long d), .second, .val (.int (1 : Int32)), .val (.int (1 : Int32)), .val (.int ps), .unset] [(.int (6 : Int32))])
        obtain ⟨T111, h111, k111, X111, e111, E111, A111, st111⟩ := newP X0 hx hZ (hw _ (List.mem_of_getElem? (i := 4) rfl)) e0 (g := (mkF m 43 #[.val (.int a), .val (.long d), .second, .val (.int (1 : Int32)), .val (.int (1 : Int32)), .val (.int ps), .unset] [(.int (6 : Int32))])) rfl (hb hby d2_43) rfl (by decide) (cap := 6) (by decide) (by decide) (by decide) (by decide)
        obtain ⟨nb111, g111⟩ : ∃ z, z = h0.size := ⟨_, rfl⟩
        rw [← g111] at A111 st111
        refine own_st st111 ?_
        have g_nb111 : n0 ≤ nb111 := Nat.le_trans (Nat.le_trans Z0 (Keep.refl h0 []).1) (Nat.le_of_eq g111.symm)
        have K111 : Keep h0 h111 [] := (Keep.refl h0 []).ext E111
        have sz_nb111 : h0.size ≤ nb111 := Nat.le_trans (Keep.refl h0 []).1 (Nat.le_of_eq g111.symm)
        have V111 : Arv Z h111 nb111 k111 .char (6 : Int32) [(.int (0 : Int32)), (.int (0 : Int32)), (.int (0 : Int32)), (.int (0 : Int32)), (.int (0 : Int32)), (.int (0 : Int32))] (.int (0 : Int32)) := (Arv.new A111 (by decide)).pad (pad_rep [] (.int (0 : Int32)) 6)
        show own_Go p e below _ T111 (mkF m 45 #[.val (.int a), .val (.long d), .second, .val (.int (1 : Int32)), .val (.int (1 : Int32)), .val (.int ps), .unset] [(.ref nb111)])
        refine own_st (fun t_ k_ => XS.dup X111.here hx rfl (hb hby d2_45) rfl rfl k_) ?_
        show own_Go p e below _ T111 (mkF m 46 #[.val (.int a), .val (.long d), .second, .val (.int (1 : Int32)), .val (.int (1 : Int32)), .val (.int ps), .unset] [(.ref nb111), (.ref nb111)])
        refine own_st (fun t_ k_ => XS.iconst X111.here hx rfl (hb hby d2_46) k_) ?_
        show own_Go p e below _ T111 (mkF m 47 #[.val (.int a), .val (.long d), .second, .val (.int (1 : Int32)), .val (.int (1 : Int32)), .val (.int ps), .unset] [(.int (0 : Int32)), (.ref nb111), (.ref nb111)])
        refine own_st (fun t_ k_ => XS.bipush X111.here hx rfl (hb hby d2_47) k_) ?_
        show own_Go p e below _ T111 (mkF m 49 #[.val (.int a), .val (.long d), .second, .val (.int (1 : Int32)), .val (.int (1 : Int32)), .val (.int ps), .unset] [(.int (77 : Int32)), (.int (0 : Int32)), (.ref nb111), (.ref nb111)])
        obtain ⟨cl112, Ar112, q112, S112, N112', H112, G112⟩ := id V111
        have hin112 : ¬ ((0 : Int32) < 0 ∨ cl112.slots.size ≤ ((0 : Int32)).toNatClampNeg) := inb_of S112 ⟨by decide, by decide⟩
        obtain ⟨T112, h112, X112, e112, W112, st112⟩ := stC X111 hx hZ e111 Ar112 (j := (0 : Int32)) hin112 (g := (mkF m 49 #[.val (.int a), .val (.long d), .second, .val (.int (1 : Int32)), .val (.int (1 : Int32)), .val (.int ps), .unset] [(.int (77 : Int32)), (.int (0 : Int32)), (.ref nb111), (.ref nb111)])) rfl rfl (hb hby d2_49)
        have V112 : Arv Z h112 nb111 k111 .char (6 : Int32) [(.int (77 : Int32)), (.int (0 : Int32)), (.int (0 : Int32)), (.int (0 : Int32)), (.int (0 : Int32)), (.int (0 : Int32))] (.int (0 : Int32)) := Arv.set Ar112 q112 S112 N112' H112 G112 (fits_nar_char _) W112 0 rfl (Nat.le_of_ble_eq_true rfl)
        refine own_st st112 ?_
        have N112 := Fr.snoc X112 N0 g_nb111
        have K112 : Keep h0 h112 [] := K111.wr W112 (Or.inr sz_nb111)
        show own_Go p e below _ T112 (mkF m 50 #[.val (.int a), .val (.long d), .second, .val (.int (1 : Int32)), .val (.int (1 : Int32)), .val (.int ps), .unset] [(.ref nb111)])
        refine own_st (fun t_ k_ => XS.dup X112.here hx rfl (hb hby d2_50) rfl rfl k_) ?_
        show own_Go p e below _ T112 (mkF m 51 #[.val (.int a), .val (.long d), .second, .val (.int (1 : Int32)), .val (.int (1 : Int32)), .val (.int ps), .unset] [(.ref nb111), (.ref nb111)])
        refine own_st (fun t_ k_ => XS.iconst X112.here hx rfl (hb hby d2_51) k_) ?_
        show own_Go p e below _ T112 (mkF m 52 #[.val (.int a), .val (.long d), .second, .val (.int (1 : Int32)), .val (.int (1 : Int32)), .val (.int ps), .unset] [(.int (1 : Int32)), (.ref nb111), (.ref nb111)])
        refine own_st (fun t_ k_ => XS.bipush X112.here hx rfl (hb hby d2_52) k_) ?_
        show own_Go p e below _ T112 (mkF m 54 #[.val (.int a), .val (.long d), .second, .val (.int (1 : Int32)), .val (.int (1 : Int32)), .val (.int ps), .unset] [(.int (81 : Int32)), (.int (1 : Int32)), (.ref nb111), (.ref nb111)])
        obtain ⟨cl113, Ar113, q113, S113, N113', H113, G113⟩ := id V112
        have hin113 : ¬ ((1 : Int32) < 0 ∨ cl113.slots.size ≤ ((1 : Int32)).toNatClampNeg) := inb_of S113 ⟨by decide, by decide⟩
        obtain ⟨T113, h113, X113, e113, W113, st113⟩ := stC X112 hx hZ e112 Ar113 (j := (1 : Int32)) hin113 (g := (mkF m 54 #[.val (.int a), .val (.long d), .second, .val (.int (1 : Int32)), .val (.int (1 : Int32)), .val (.int ps), .unset] [(.int (81 : Int32)), (.int (1 : Int32)), (.ref nb111), (.ref nb111)])) rfl rfl (hb hby d2_54)
        have V113 : Arv Z h113 nb111 k111 .char (6 : Int32) [(.int (77 : Int32)), (.int (81 : Int32)), (.int (0 : Int32)), (.int (0 : Int32)), (.int (0 : Int32)), (.int (0 : Int32))] (.int (0 : Int32)) := Arv.set Ar113 q113 S113 N113' H113 G113 (fits_nar_char _) W113 1 rfl (Nat.le_of_ble_eq_true rfl)
        refine own_st st113 ?_
        have N113 := Fr.snoc X113 N112 g_nb111
        have K113 : Keep h0 h113 [] := K112.wr W113 (Or.inr sz_nb111)
        show own_Go p e below _ T113 (mkF m 55 #[.val (.int a), .val (.long d), .second, .val (.int (1 : Int32)), .val (.int (1 : Int32)), .val (.int ps), .unset] [(.ref nb111)])
        refine own_st (fun t_ k_ => XS.dup X113.here hx rfl (hb hby d2_55) rfl rfl k_) ?_
        show own_Go p e below _ T113 (mkF m 56 #[.val (.int a), .val (.long d), .second, .val (.int (1 : Int32)), .val (.int (1 : Int32)), .val (.int ps), .unset] [(.ref nb111), (.ref nb111)])
        refine own_st (fun t_ k_ => XS.iconst X113.here hx rfl (hb hby d2_56) k_) ?_
        show own_Go p e below _ T113 (mkF m 57 #[.val (.int a), .val (.long d), .second, .val (.int (1 : Int32)), .val (.int (1 : Int32)), .val (.int ps), .unset] [(.int (2 : Int32)), (.ref nb111), (.ref nb111)])
        refine own_st (fun t_ k_ => XS.bipush X113.here hx rfl (hb hby d2_57) k_) ?_
        show own_Go p e below _ T113 (mkF m 59 #[.val (.int a), .val (.long d), .second, .val (.int (1 : Int32)), .val (.int (1 : Int32)), .val (.int ps), .unset] [(.int (73 : Int32)), (.int (2 : Int32)), (.ref nb111), (.ref nb111)])
        obtain ⟨cl114, Ar114, q114, S114, N114', H114, G114⟩ := id V113
        have hin114 : ¬ ((2 : Int32) < 0 ∨ cl114.slots.size ≤ ((2 : Int32)).toNatClampNeg) := inb_of S114 ⟨by decide, by decide⟩
        obtain ⟨T114, h114, X114, e114, W114, st114⟩ := stC X113 hx hZ e113 Ar114 (j := (2 : Int32)) hin114 (g := (mkF m 59 #[.val (.int a), .val (.long d), .second, .val (.int (1 : Int32)), .val (.int (1 : Int32)), .val (.int ps), .unset] [(.int (73 : Int32)), (.int (2 : Int32)), (.ref nb111), (.ref nb111)])) rfl rfl (hb hby d2_59)
        have V114 : Arv Z h114 nb111 k111 .char (6 : Int32) [(.int (77 : Int32)), (.int (81 : Int32)), (.int (73 : Int32)), (.int (0 : Int32)), (.int (0 : Int32)), (.int (0 : Int32))] (.int (0 : Int32)) := Arv.set Ar114 q114 S114 N114' H114 G114 (fits_nar_char _) W114 2 rfl (Nat.le_of_ble_eq_true rfl)
        refine own_st st114 ?_
        have N114 := Fr.snoc X114 N113 g_nb111
        have K114 : Keep h0 h114 [] := K113.wr W114 (Or.inr sz_nb111)
        show own_Go p e below _ T114 (mkF m 60 #[.val (.int a), .val (.long d), .second, .val (.int (1 : Int32)), .val (.int (1 : Int32)), .val (.int ps), .unset] [(.ref nb111)])
        refine own_st (fun t_ k_ => XS.dup X114.here hx rfl (hb hby d2_60) rfl rfl k_) ?_
        show own_Go p e below _ T114 (mkF m 61 #[.val (.int a), .val (.long d), .second, .val (.int (1 : Int32)), .val (.int (1 : Int32)), .val (.int ps), .unset] [(.ref nb111), (.ref nb111)])
        refine own_st (fun t_ k_ => XS.iconst X114.here hx rfl (hb hby d2_61) k_) ?_
        show own_Go p e below _ T114 (mkF m 62 #[.val (.int a), .val (.long d), .second, .val (.int (1 : Int32)), .val (.int (1 : Int32)), .val (.int ps), .unset] [(.int (3 : Int32)), (.ref nb111), (.ref nb111)])
        refine own_st (fun t_ k_ => XS.bipush X114.here hx rfl (hb hby d2_62) k_) ?_
        show own_Go p e below _ T114 (mkF m 64 #[.val (.int a), .val (.long d), .second, .val (.int (1 : Int32)), .val (.int (1 : Int32)), .val (.int ps), .unset] [(.int (115 : Int32)), (.int (3 : Int32)), (.ref nb111), (.ref nb111)])
        obtain ⟨cl115, Ar115, q115, S115, N115', H115, G115⟩ := id V114
        have hin115 : ¬ ((3 : Int32) < 0 ∨ cl115.slots.size ≤ ((3 : Int32)).toNatClampNeg) := inb_of S115 ⟨by decide, by decide⟩
        obtain ⟨T115, h115, X115, e115, W115, st115⟩ := stC X114 hx hZ e114 Ar115 (j := (3 : Int32)) hin115 (g := (mkF m 64 #[.val (.int a), .val (.long d), .second, .val (.int (1 : Int32)), .val (.int (1 : Int32)), .val (.int ps), .unset] [(.int (115 : Int32)), (.int (3 : Int32)), (.ref nb111), (.ref nb111)])) rfl rfl (hb hby d2_64)
        have V115 : Arv Z h115 nb111 k111 .char (6 : Int32) [(.int (77 : Int32)), (.int (81 : Int32)), (.int (73 : Int32)), (.int (115 : Int32)), (.int (0 : Int32)), (.int (0 : Int32))] (.int (0 : Int32)) := Arv.set Ar115 q115 S115 N115' H115 G115 (fits_nar_char _) W115 3 rfl (Nat.le_of_ble_eq_true rfl)
        refine own_st st115 ?_
        have N115 := Fr.snoc X115 N114 g_nb111
        have K115 : Keep h0 h115 [] := K114.wr W115 (Or.inr sz_nb111)
        show own_Go p e below _ T115 (mkF m 65 #[.val (.int a), .val (.long d), .second, .val (.int (1 : Int32)), .val (.int (1 : Int32)), .val (.int ps), .unset] [(.ref nb111)])
        refine own_st (fun t_ k_ => XS.dup X115.here hx rfl (hb hby d2_65) rfl rfl k_) ?_
        show own_Go p e below _ T115 (mkF m 66 #[.val (.int a), .val (.long d), .second, .val (.int (1 : Int32)), .val (.int (1 : Int32)), .val (.int ps), .unset] [(.ref nb111), (.ref nb111)])
        refine own_st (fun t_ k_ => XS.iconst X115.here hx rfl (hb hby d2_66) k_) ?_
        show own_Go p e below _ T115 (mkF m 67 #[.val (.int a), .val (.long d), .second, .val (.int (1 : Int32)), .val (.int (1 : Int32)), .val (.int ps), .unset] [(.int (4 : Int32)), (.ref nb111), (.ref nb111)])
        refine own_st (fun t_ k_ => XS.bipush X115.here hx rfl (hb hby d2_67) k_) ?_
        show own_Go p e below _ T115 (mkF m 69 #[.val (.int a), .val (.long d), .second, .val (.int (1 : Int32)), .val (.int (1 : Int32)), .val (.int ps), .unset] [(.int (100 : Int32)), (.int (4 : Int32)), (.ref nb111), (.ref nb111)])
        obtain ⟨cl116, Ar116, q116, S116, N116', H116, G116⟩ := id V115
        have hin116 : ¬ ((4 : Int32) < 0 ∨ cl116.slots.size ≤ ((4 : Int32)).toNatClampNeg) := inb_of S116 ⟨by decide, by decide⟩
        obtain ⟨T116, h116, X116, e116, W116, st116⟩ := stC X115 hx hZ e115 Ar116 (j := (4 : Int32)) hin116 (g := (mkF m 69 #[.val (.int a), .val (.long d), .second, .val (.int (1 : Int32)), .val (.int (1 : Int32)), .val (.int ps), .unset] [(.int (100 : Int32)), (.int (4 : Int32)), (.ref nb111), (.ref nb111)])) rfl rfl (hb hby d2_69)
        have V116 : Arv Z h116 nb111 k111 .char (6 : Int32) [(.int (77 : Int32)), (.int (81 : Int32)), (.int (73 : Int32)), (.int (115 : Int32)), (.int (100 : Int32)), (.int (0 : Int32))] (.int (0 : Int32)) := Arv.set Ar116 q116 S116 N116' H116 G116 (fits_nar_char _) W116 4 rfl (Nat.le_of_ble_eq_true rfl)
        refine own_st st116 ?_
        have N116 := Fr.snoc X116 N115 g_nb111
        have K116 : Keep h0 h116 [] := K115.wr W116 (Or.inr sz_nb111)
        show own_Go p e below _ T116 (mkF m 70 #[.val (.int a), .val (.long d), .second, .val (.int (1 : Int32)), .val (.int (1 : Int32)), .val (.int ps), .unset] [(.ref nb111)])
        refine own_st (fun t_ k_ => XS.dup X116.here hx rfl (hb hby d2_70) rfl rfl k_) ?_
        show own_Go p e below _ T116 (mkF m 71 #[.val (.int a), .val (.long d), .second, .val (.int (1 : Int32)), .val (.int (1 : Int32)), .val (.int ps), .unset] [(.ref nb111), (.ref nb111)])
        refine own_st (fun t_ k_ => XS.iconst X116.here hx rfl (hb hby d2_71) k_) ?_
        show own_Go p e below _ T116 (mkF m 72 #[.val (.int a), .val (.long d), .second, .val (.int (1 : Int32)), .val (.int (1 : Int32)), .val (.int ps), .unset] [(.int (5 : Int32)), (.ref nb111), (.ref nb111)])
        refine own_st (fun t_ k_ => XS.bipush X116.here hx rfl (hb hby d2_72) k_) ?_
        show own_Go p e below _ T116 (mkF m 74 #[.val (.int a), .val (.long d), .second, .val (.int (1 : Int32)), .val (.int (1 : Int32)), .val (.int ps), .unset] [(.int (112 : Int32)), (.int (5 : Int32)), (.ref nb111), (.ref nb111)])
        obtain ⟨cl117, Ar117, q117, S117, N117', H117, G117⟩ := id V116
        have hin117 : ¬ ((5 : Int32) < 0 ∨ cl117.slots.size ≤ ((5 : Int32)).toNatClampNeg) := inb_of S117 ⟨by decide, by decide⟩
        obtain ⟨T117, h117, X117, e117, W117, st117⟩ := stC X116 hx hZ e116 Ar117 (j := (5 : Int32)) hin117 (g := (mkF m 74 #[.val (.int a), .val (.long d), .second, .val (.int (1 : Int32)), .val (.int (1 : Int32)), .val (.int ps), .unset] [(.int (112 : Int32)), (.int (5 : Int32)), (.ref nb111), (.ref nb111)])) rfl rfl (hb hby d2_74)
        have V117 : Arv Z h117 nb111 k111 .char (6 : Int32) [(.int (77 : Int32)), (.int (81 : Int32)), (.int (73 : Int32)), (.int (115 : Int32)), (.int (100 : Int32)), (.int (112 : Int32))] (.int (0 : Int32)) := Arv.set Ar117 q117 S117 N117' H117 G117 (fits_nar_char _) W117 5 rfl (Nat.le_of_ble_eq_true rfl)
        refine own_st st117 ?_
        have N117 := Fr.snoc X117 N116 g_nb111
        have K117 : Keep h0 h117 [] := K116.wr W117 (Or.inr sz_nb111)
        show own_Go p e below _ T117 (mkF m 75 #[.val (.int a), .val (.long d), .second, .val (.int (1 : Int32)), .val (.int (1 : Int32)), .val (.int ps), .unset] [(.ref nb111)])
        refine own_st (fun t_ k_ => XS.astore X117.here hx rfl (hb hby d2_75) rfl rfl (l' := #[.val (.int a), .val (.long d), .second, .val (.int (1 : Int32)), .val (.int (1 : Int32)), .val (.int ps), .val (.ref nb111)]) rfl k_) ?_
        show own_Go p e below _ T117 (mkF m 77 #[.val (.int a), .val (.long d), .second, .val (.int (1 : Int32)), .val (.int (1 : Int32)), .val (.int ps), .val (.ref nb111)] [])
        refine own_st (fun t_ k_ => XS.iloadN X117.here hx rfl (hb hby d2_77) rfl k_) ?_
        show own_Go p e below _ T117 (mkF m 78 #[.val (.int a), .val (.long d), .second, .val (.int (1 : Int32)), .val (.int (1 : Int32)), .val (.int ps), .val (.ref nb111)] [(.int (1 : Int32))])
        refine own_st (fun t_ k_ => XS.iconst X117.here hx rfl (hb hby d2_78) k_) ?_
        show own_Go p e below _ T117 (mkF m 79 #[.val (.int a), .val (.long d), .second, .val (.int (1 : Int32)), .val (.int (1 : Int32)), .val (.int ps), .val (.ref nb111)] [(.int (1 : Int32)), (.int (1 : Int32))])
        refine own_st (fun t_ k_ => XS.icmpNo X117.here hx rfl (hb hby d2_79) rfl (by decide) k_) ?_
        show own_Go p e below _ T117 (mkF m 82 #[.val (.int a), .val (.long d), .second, .val (.int (1 : Int32)), .val (.int (1 : Int32)), .val (.int ps), .val (.ref nb111)] [])
        refine own_st (fun t_ k_ => XS.aload X117.here hx rfl (hb hby d2_82) rfl rfl k_) ?_
        show own_Go p e below _ T117 (mkF m 84 #[.val (.int a), .val (.long d), .second, .val (.int (1 : Int32)), .val (.int (1 : Int32)), .val (.int ps), .val (.ref nb111)] [(.ref nb111)])
        rcases (d_ps : ps = (0 : Int32) ∨ ps = (1 : Int32) ∨ ps = (2 : Int32) ∨ ps = (3 : Int32) ∨ ps = (4 : Int32) ∨ ps = (5 : Int32)) with rfl | rfl | rfl | rfl | rfl | rfl
        · show own_Go p e below _ T117 (mkF m 84 #[.val (.int a), .val (.long d), .second, .val (.int (1 : Int32)), .val (.int (1 : Int32)), .val (.int (0 : Int32)), .val (.ref nb111)] [(.ref nb111)])
          refine own_st (fun t_ k_ => XS.iload X117.here hx rfl (hb hby d2_84) rfl k_) ?_
          show own_Go p e below _ T117 (mkF m 86 #[.val (.int a), .val (.long d), .second, .val (.int (1 : Int32)), .val (.int (1 : Int32)), .val (.int (0 : Int32)), .val (.ref nb111)] [(.int (0 : Int32)), (.ref nb111)])
          refine own_st (fun t_ k_ => XS.lloadN X117.here hx rfl (hb hby d2_86) rfl k_) ?_
          show own_Go p e below _ T117 (mkF m 87 #[.val (.int a), .val (.long d), .second, .val (.int (1 : Int32)), .val (.int (1 : Int32)), .val (.int (0 : Int32)), .val (.ref nb111)] [(.long d), (.int (0 : Int32)), (.ref nb111)])
          refine own_st (fun t_ k_ => XS.iconst X117.here hx rfl (hb hby d2_87) k_) ?_
          show own_Go p e below _ T117 (mkF m 88 #[.val (.int a), .val (.long d), .second, .val (.int (1 : Int32)), .val (.int (1 : Int32)), .val (.int (0 : Int32)), .val (.ref nb111)] [(.int (0 : Int32)), (.long d), (.int (0 : Int32)), (.ref nb111)])
          refine own_callS X117 hx (y := (⟨"com/example/lean_pubsub/leanpubsub/codec/ProtocolVersionFindPinLaw", "pick", "(JI)C"⟩ : MethodName)) hown (mvT hZ (hw _ (List.mem_of_getElem? (i := 75) rfl))) (mvT hZ (hw _ (List.mem_of_getElem? (i := 76) rfl))) (mvT hZ (hw _ (List.mem_of_getElem? (i := 2) rfl))) (mvT hZ (hw _ (List.mem_of_getElem? (i := 77) rfl))) (by decide) (backOf (W := 2) (rmPK l Z a0 hw [] d (0 : Int32) h117 n0 (Nat.le_trans Z0 K117.1)) hZ (hw _ (List.mem_of_getElem? (i := 77) rfl)) (hw _ (List.mem_of_getElem? (i := 2) rfl)) (by decide) (by decide)) (g := (mkF m 88 #[.val (.int a), .val (.long d), .second, .val (.int (1 : Int32)), .val (.int (1 : Int32)), .val (.int (0 : Int32)), .val (.ref nb111)] [(.int (0 : Int32)), (.long d), (.int (0 : Int32)), (.ref nb111)])) rfl (by rw [hml]; rfl) (argsL := [(.long d), (.int (0 : Int32))]) (rest := [(.int (0 : Int32)), (.ref nb111)]) (lenOf pd_1 rfl) rfl (by show 2 * 0 + _ ≤ _; exact Nat.le_of_eq rfl) (hb hby d2_88) rfl e117 (by decide) (by decide) ?_
          rintro v118 T118 L118 X118 ⟨c118, rfl, Nq118, hh118, lc118⟩
          have N118 := Fr.app N117 Nq118
          show own_Go p e below _ T118 (mkF m 91 #[.val (.int a), .val (.long d), .second, .val (.int (1 : Int32)), .val (.int (1 : Int32)), .val (.int (0 : Int32)), .val (.ref nb111)] [(.int c118), (.int (0 : Int32)), (.ref nb111)])
          obtain ⟨cl119, Ar119, q119, S119, N119', H119, G119⟩ := id V117
          have hin119 : ¬ ((0 : Int32) < 0 ∨ cl119.slots.size ≤ ((0 : Int32)).toNatClampNeg) := inb_of S119 ⟨by decide, by decide⟩
          obtain ⟨T119, h119, X119, e119, W119, st119⟩ := stC X118 hx hZ hh118 Ar119 (j := (0 : Int32)) hin119 (g := (mkF m 91 #[.val (.int a), .val (.long d), .second, .val (.int (1 : Int32)), .val (.int (1 : Int32)), .val (.int (0 : Int32)), .val (.ref nb111)] [(.int c118), (.int (0 : Int32)), (.ref nb111)])) rfl rfl (hb hby d2_91)
          have V119 : Arv Z h119 nb111 k111 .char (6 : Int32) [(.int (nar .char c118)), (.int (81 : Int32)), (.int (73 : Int32)), (.int (115 : Int32)), (.int (100 : Int32)), (.int (112 : Int32))] (.int (0 : Int32)) := Arv.set Ar119 q119 S119 N119' H119 G119 (fits_nar_char _) W119 0 rfl (Nat.le_of_ble_eq_true rfl)
          refine own_st st119 ?_
          have N119 := Fr.snoc X119 N118 g_nb111
          have K119 : Keep h0 h119 [] := K117.wr W119 (Or.inr sz_nb111)
          show own_Go p e below _ T119 (mkF m 92 #[.val (.int a), .val (.long d), .second, .val (.int (1 : Int32)), .val (.int (1 : Int32)), .val (.int (0 : Int32)), .val (.ref nb111)] [])
          obtain ⟨T120, h120, X120, e120, E120, A120, D120, cel120, st120⟩ := newO X119 hx hZ hown (hw _ (List.mem_of_getElem? (i := 5) rfl)) (hw _ (List.mem_of_getElem? (i := 6) rfl)) (hw _ (List.mem_of_getElem? (i := 7) rfl)) e119 (g := (mkF m 92 #[.val (.int a), .val (.long d), .second, .val (.int (1 : Int32)), .val (.int (1 : Int32)), .val (.int (0 : Int32)), .val (.ref nb111)] [])) rfl (hb hby d2_92) (by decide) (by decide)
          obtain ⟨nb120, g120⟩ : ∃ z, z = h119.size := ⟨_, rfl⟩
          rw [← g120] at A120 D120 cel120 st120
          refine own_st st120 ?_
          have g_nb120 : n0 ≤ nb120 := Nat.le_trans (Nat.le_trans Z0 K119.1) (Nat.le_of_eq g120.symm)
          have K120 : Keep h0 h120 [] := K119.ext E120
          have sz_nb120 : h0.size ≤ nb120 := Nat.le_trans K119.1 (Nat.le_of_eq g120.symm)
          have F120_coder : Fld Z h120 nb120 "java/lang/String" "coder" "B" (.int (0 : Int32)) := D120 (Or.inr (hw _ (List.mem_of_getElem? (i := 31) rfl))) (ty := .byte) (by decide)
          have F120_value : Fld Z h120 nb120 "java/lang/String" "value" "[B" .null := D120 (Or.inr (hw _ (List.mem_of_getElem? (i := 33) rfl))) (ty := (.array .byte)) (by decide)
          show own_Go p e below _ T120 (mkF m 95 #[.val (.int a), .val (.long d), .second, .val (.int (1 : Int32)), .val (.int (1 : Int32)), .val (.int (0 : Int32)), .val (.ref nb111)] [(.ref nb120)])
          refine own_st (fun t_ k_ => XS.dup X120.here hx rfl (hb hby d2_95) rfl rfl k_) ?_
          show own_Go p e below _ T120 (mkF m 96 #[.val (.int a), .val (.long d), .second, .val (.int (1 : Int32)), .val (.int (1 : Int32)), .val (.int (0 : Int32)), .val (.ref nb111)] [(.ref nb120), (.ref nb120)])
          refine own_st (fun t_ k_ => XS.aload X120.here hx rfl (hb hby d2_96) rfl rfl k_) ?_
          show own_Go p e below _ T120 (mkF m 98 #[.val (.int a), .val (.long d), .second, .val (.int (1 : Int32)), .val (.int (1 : Int32)), .val (.int (0 : Int32)), .val (.ref nb111)] [(.ref nb111), (.ref nb120), (.ref nb120)])
          have hp121 : ∀ c ∈ ([(nar .char c118), (81 : Int32), (73 : Int32), (115 : Int32), (100 : Int32), (112 : Int32)] : List Int32), ¬ c < 0 ∧ ¬ (255 : Int32) < c := (own_lcons (own_LLN lc118) (own_lcons ⟨by decide, by decide⟩ (own_lcons ⟨by decide, by decide⟩ (own_lcons ⟨by decide, by decide⟩ (own_lcons ⟨by decide, by decide⟩ (own_lcons ⟨by decide, by decide⟩ own_lnil))))))
          have f122 := (V119.ext E120)
          have f123 := (O0.ext E111)
          have f124 := (f123.wr W112 g_nb111)
          have f125 := (f124.wr W113 g_nb111)
          have f126 := (f125.wr W114 g_nb111)
          have f127 := (f126.wr W115 g_nb111)
          have f128 := (f127.wr W116 g_nb111)
          have f129 := (f128.wr W117 g_nb111)
          have f130 := (f129.wr W119 g_nb111)
          have f131 := (f130.ext E120)
          refine own_callN X120 hx (y := (⟨"java/lang/String", "<init>", "([C)V"⟩ : MethodName)) rfl hown (mvT hZ (hw _ (List.mem_of_getElem? (i := 8) rfl))) (mvT hZ (hw _ (List.mem_of_getElem? (i := 9) rfl))) (mvT hZ (hw _ (List.mem_of_getElem? (i := 10) rfl))) (by decide) (StrChars.Road.backV (W := 1) hZ (own_words hw) (kI := 4) (hw _ (List.mem_of_getElem? (i := 6) rfl)) (cs := ([(nar .char c118), (81 : Int32), (73 : Int32), (115 : Int32), (100 : Int32), (112 : Int32)] : List Int32)) (bs := ([(nar .char c118), (81 : Int32), (73 : Int32), (115 : Int32), (100 : Int32), (112 : Int32)] : List Int32).map (fun c => c.toInt8.toInt32)) (n := 6) g_nb120 (Nat.le_trans Z0 K120.1) A120 F120_value F120_coder f122 (Sta.ext f131.2 SC) hCS rfl rfl (by decide) (by decide) hp121 rfl (by decide) (by decide)) (a := nb120) (g := (mkF m 98 #[.val (.int a), .val (.long d), .second, .val (.int (1 : Int32)), .val (.int (1 : Int32)), .val (.int (0 : Int32)), .val (.ref nb111)] [(.ref nb111), (.ref nb120), (.ref nb120)])) rfl (by rw [hml]; rfl) (argsL := [(.ref nb111)]) (rest := [(.ref nb120)]) (lenOf pd_0 rfl) rfl (by show 2 * 0 + _ ≤ _; exact Nat.le_of_eq rfl) (hb hby d2_98) rfl e120 (by decide) (by decide) ?_
          rintro v121 T121 L121 X121 ⟨rfl, Nq121, Kq121, Eq121, Cq121, t121, kb121, g_t121, gt121, nt121, Vq121, Aq121⟩
          have sz_t121 : h0.size ≤ t121 := Nat.le_trans K120.1 gt121
          have N121 := Fr.app N119 Nq121
          have K121 : Keep h0 T121.heap [] := K120.trans Kq121 (allS (Or.inr sz_nb120) all0)
          show own_Go p e below _ T121 (mkF m 101 #[.val (.int a), .val (.long d), .second, .val (.int (1 : Int32)), .val (.int (1 : Int32)), .val (.int (0 : Int32)), .val (.ref nb111)] [(.ref nb120)])
          refine own_retA X121 hx hlk Bd.returns rfl rfl (hb hby d2_101) ?_ (by decide) (by decide)
          show QNa Z h0 n0 _ T121.heap _
          exact ⟨([(nar .char c118), (81 : Int32), (73 : Int32), (115 : Int32), (100 : Int32), (112 : Int32)] : List Int32), Nat.le_of_ble_eq_true rfl, nb120, t121, kb121, rfl, N121, K121, sz_nb120, g_nb120, nt121, Eq121, Cq121, Vq121, Aq121, hp121⟩
        · show own_Go p e below _ T117 (mkF m 84 #[.val (.int a), .val (.long d), .second, .val (.int (1 : Int32)), .val (.int (1 : Int32)), .val (.int (1 : Int32)), .val (.ref nb111)] [(.ref nb111)])
          refine own_st (fun t_ k_ => XS.iload X117.here hx rfl (hb hby d2_84) rfl k_) ?_
          show own_Go p e below _ T117 (mkF m 86 #[.val (.int a), .val (.long d), .second, .val (.int (1 : Int32)), .val (.int (1 : Int32)), .val (.int (1 : Int32)), .val (.ref nb111)] [(.int (1 : Int32)), (.ref nb111)])
          refine own_st (fun t_ k_ => XS.lloadN X117.here hx rfl (hb hby d2_86) rfl k_) ?_
          show own_Go p e below _ T117 (mkF m 87 #[.val (.int a), .val (.long d), .second, .val (.int (1 : Int32)), .val (.int (1 : Int32)), .val (.int (1 : Int32)), .val (.ref nb111)] [(.long d), (.int (1 : Int32)), (.ref nb111)])
          refine own_st (fun t_ k_ => XS.iconst X117.here hx rfl (hb hby d2_87) k_) ?_
          show own_Go p e below _ T117 (mkF m 88 #[.val (.int a), .val (.long d), .second, .val (.int (1 : Int32)), .val (.int (1 : Int32)), .val (.int (1 : Int32)), .val (.ref nb111)] [(.int (0 : Int32)), (.long d), (.int (1 : Int32)), (.ref nb111)])
          refine own_callS X117 hx (y := (⟨"com/example/lean_pubsub/leanpubsub/codec/ProtocolVersionFindPinLaw", "pick", "(JI)C"⟩ : MethodName)) hown (mvT hZ (hw _ (List.mem_of_getElem? (i := 75) rfl))) (mvT hZ (hw _ (List.mem_of_getElem? (i := 76) rfl))) (mvT hZ (hw _ (List.mem_of_getElem? (i := 2) rfl))) (mvT hZ (hw _ (List.mem_of_getElem? (i := 77) rfl))) (by decide) (backOf (W := 2) (rmPK l Z a0 hw [] d (0 : Int32) h117 n0 (Nat.le_trans Z0 K117.1)) hZ (hw _ (List.mem_of_getElem? (i := 77) rfl)) (hw _ (List.mem_of_getElem? (i := 2) rfl)) (by decide) (by decide)) (g := (mkF m 88 #[.val (.int a), .val (.long d), .second, .val (.int (1 : Int32)), .val (.int (1 : Int32)), .val (.int (1 : Int32)), .val (.ref nb111)] [(.int (0 : Int32)), (.long d), (.int (1 : Int32)), (.ref nb111)])) rfl (by rw [hml]; rfl) (argsL := [(.long d), (.int (0 : Int32))]) (rest := [(.int (1 : Int32)), (.ref nb111)]) (lenOf pd_1 rfl) rfl (by show 2 * 0 + _ ≤ _; exact Nat.le_of_eq rfl) (hb hby d2_88) rfl e117 (by decide) (by decide) ?_
          rintro v132 T132 L132 X132 ⟨c132, rfl, Nq132, hh132, lc132⟩
          have N132 := Fr.app N117 Nq132
          show own_Go p e below _ T132 (mkF m 91 #[.val (.int a), .val (.long d), .second, .val (.int (1 : Int32)), .val (.int (1 : Int32)), .val (.int (1 : Int32)), .val (.ref nb111)] [(.int c132), (.int (1 : Int32)), (.ref nb111)])
          obtain ⟨cl133, Ar133, q133, S133, N133', H133, G133⟩ := id V117
          have hin133 : ¬ ((1 : Int32) < 0 ∨ cl133.slots.size ≤ ((1 : Int32)).toNatClampNeg) := inb_of S133 ⟨by decide, by decide⟩
          obtain ⟨T133, h133, X133, e133, W133, st133⟩ := stC X132 hx hZ hh132 Ar133 (j := (1 : Int32)) hin133 (g := (mkF m 91 #[.val (.int a), .val (.long d), .second, .val (.int (1 : Int32)), .val (.int (1 : Int32)), .val (.int (1 : Int32)), .val (.ref nb111)] [(.int c132), (.int (1 : Int32)), (.ref nb111)])) rfl rfl (hb hby d2_91)
          have V133 : Arv Z h133 nb111 k111 .char (6 : Int32) [(.int (77 : Int32)), (.int (nar .char c132)), (.int (73 : Int32)), (.int (115 : Int32)), (.int (100 : Int32)), (.int (112 : Int32))] (.int (0 : Int32)) := Arv.set Ar133 q133 S133 N133' H133 G133 (fits_nar_char _) W133 1 rfl (Nat.le_of_ble_eq_true rfl)
          refine own_st st133 ?_
          have N133 := Fr.snoc X133 N132 g_nb111
          have K133 : Keep h0 h133 [] := K117.wr W133 (Or.inr sz_nb111)
          show own_Go p e below _ T133 (mkF m 92 #[.val (.int a), .val (.long d), .second, .val (.int (1 : Int32)), .val (.int (1 : Int32)), .val (.int (1 : Int32)), .val (.ref nb111)] [])
          obtain ⟨T134, h134, X134, e134, E134, A134, D134, cel134, st134⟩ := newO X133 hx hZ hown (hw _ (List.mem_of_getElem? (i := 5) rfl)) (hw _ (List.mem_of_getElem? (i := 6) rfl)) (hw _ (List.mem_of_getElem? (i := 7) rfl)) e133 (g := (mkF m 92 #[.val (.int a), .val (.long d), .second, .val (.int (1 : Int32)), .val (.int (1 : Int32)), .val (.int (1 : Int32)), .val (.ref nb111)] [])) rfl (hb hby d2_92) (by decide) (by decide)
          obtain ⟨nb134, g134⟩ : ∃ z, z = h133.size := ⟨_, rfl⟩
          rw [← g134] at A134 D134 cel134 st134
          refine own_st st134 ?_
          have g_nb134 : n0 ≤ nb134 := Nat.le_trans (Nat.le_trans Z0 K133.1) (Nat.le_of_eq g134.symm)
          have K134 : Keep h0 h134 [] := K133.ext E134
          have sz_nb134 : h0.size ≤ nb134 := Nat.le_trans K133.1 (Nat.le_of_eq g134.symm)
          have F134_coder : Fld Z h134 nb134 "java/lang/String" "coder" "B" (.int (0 : Int32)) := D134 (Or.inr (hw _ (List.mem_of_getElem? (i := 31) rfl))) (ty := .byte) (by decide)
          have F134_value : Fld Z h134 nb134 "java/lang/String" "value" "[B" .null := D134 (Or.inr (hw _ (List.mem_of_getElem? (i := 33) rfl))) (ty := (.array .byte)) (by decide)
          show own_Go p e below _ T134 (mkF m 95 #[.val (.int a), .val (.long d), .second, .val (.int (1 : Int32)), .val (.int (1 : Int32)), .val (.int (1 : Int32)), .val (.ref nb111)] [(.ref nb134)])
          refine own_st (fun t_ k_ => XS.dup X134.here hx rfl (hb hby d2_95) rfl rfl k_) ?_
          show own_Go p e below _ T134 (mkF m 96 #[.val (.int a), .val (.long d), .second, .val (.int (1 : Int32)), .val (.int (1 : Int32)), .val (.int (1 : Int32)), .val (.ref nb111)] [(.ref nb134), (.ref nb134)])
          refine own_st (fun t_ k_ => XS.aload X134.here hx rfl (hb hby d2_96) rfl rfl k_) ?_
          show own_Go p e below _ T134 (mkF m 98 #[.val (.int a), .val (.long d), .second, .val (.int (1 : Int32)), .val (.int (1 : Int32)), .val (.int (1 : Int32)), .val (.ref nb111)] [(.ref nb111), (.ref nb134), (.ref nb134)])
          have hp135 : ∀ c ∈ ([(77 : Int32), (nar .char c132), (73 : Int32), (115 : Int32), (100 : Int32), (112 : Int32)] : List Int32), ¬ c < 0 ∧ ¬ (255 : Int32) < c := (own_lcons ⟨by decide, by decide⟩ (own_lcons (own_LLN lc132) (own_lcons ⟨by decide, by decide⟩ (own_lcons ⟨by decide, by decide⟩ (own_lcons ⟨by decide, by decide⟩ (own_lcons ⟨by decide, by decide⟩ own_lnil))))))
          have f136 := (V133.ext E134)
          have f137 := (O0.ext E111)
          have f138 := (f137.wr W112 g_nb111)
          have f139 := (f138.wr W113 g_nb111)
          have f140 := (f139.wr W114 g_nb111)
          have f141 := (f140.wr W115 g_nb111)
          have f142 := (f141.wr W116 g_nb111)
          have f143 := (f142.wr W117 g_nb111)
          have f144 := (f143.wr W133 g_nb111)
          have f145 := (f144.ext E134)
          refine own_callN X134 hx (y := (⟨"java/lang/String", "<init>", "([C)V"⟩ : MethodName)) rfl hown (mvT hZ (hw _ (List.mem_of_getElem? (i := 8) rfl))) (mvT hZ (hw _ (List.mem_of_getElem? (i := 9) rfl))) (mvT hZ (hw _ (List.mem_of_getElem? (i := 10) rfl))) (by decide) (StrChars.Road.backV (W := 1) hZ (own_words hw) (kI := 4) (hw _ (List.mem_of_getElem? (i := 6) rfl)) (cs := ([(77 : Int32), (nar .char c132), (73 : Int32), (115 : Int32), (100 : Int32), (112 : Int32)] : List Int32)) (bs := ([(77 : Int32), (nar .char c132), (73 : Int32), (115 : Int32), (100 : Int32), (112 : Int32)] : List Int32).map (fun c => c.toInt8.toInt32)) (n := 6) g_nb134 (Nat.le_trans Z0 K134.1) A134 F134_value F134_coder f136 (Sta.ext f145.2 SC) hCS rfl rfl (by decide) (by decide) hp135 rfl (by decide) (by decide)) (a := nb134) (g := (mkF m 98 #[.val (.int a), .val (.long d), .second, .val (.int (1 : Int32)), .val (.int (1 : Int32)), .val (.int (1 : Int32)), .val (.ref nb111)] [(.ref nb111), (.ref nb134), (.ref nb134)])) rfl (by rw [hml]; rfl) (argsL := [(.ref nb111)]) (rest := [(.ref nb134)]) (lenOf pd_0 rfl) rfl (by show 2 * 0 + _ ≤ _; exact Nat.le_of_eq rfl) (hb hby d2_98) rfl e134 (by decide) (by decide) ?_
          rintro v135 T135 L135 X135 ⟨rfl, Nq135, Kq135, Eq135, Cq135, t135, kb135, g_t135, gt135, nt135, Vq135, Aq135⟩
          have sz_t135 : h0.size ≤ t135 := Nat.le_trans K134.1 gt135
          have N135 := Fr.app N133 Nq135
          have K135 : Keep h0 T135.heap [] := K134.trans Kq135 (allS (Or.inr sz_nb134) all0)
          show own_Go p e below _ T135 (mkF m 101 #[.val (.int a), .val (.long d), .second, .val (.int (1 : Int32)), .val (.int (1 : Int32)), .val (.int (1 : Int32)), .val (.ref nb111)] [(.ref nb134)])
          refine own_retA X135 hx hlk Bd.returns rfl rfl (hb hby d2_101) ?_ (by decide) (by decide)
          show QNa Z h0 n0 _ T135.heap _
          exact ⟨([(77 : Int32), (nar .char c132), (73 : Int32), (115 : Int32), (100 : Int32), (112 : Int32)] : List Int32), Nat.le_of_ble_eq_true rfl, nb134, t135, kb135, rfl, N135, K135, sz_nb134, g_nb134, nt135, Eq135, Cq135, Vq135, Aq135, hp135⟩
        · show own_Go p e below _ T117 (mkF m 84 #[.val (.int a), .val (.long d), .second, .val (.int (1 : Int32)), .val (.int (1 : Int32)), .val (.int (2 : Int32)), .val (.ref nb111)] [(.ref nb111)])
          refine own_st (fun t_ k_ => XS.iload X117.here hx rfl (hb hby d2_84) rfl k_) ?_
          show own_Go p e below _ T117 (mkF m 86 #[.val (.int a), .val (.long d), .second, .val (.int (1 : Int32)), .val (.int (1 : Int32)), .val (.int (2 : Int32)), .val (.ref nb111)] [(.int (2 : Int32)), (.ref nb111)])
          refine own_st (fun t_ k_ => XS.lloadN X117.here hx rfl (hb hby d2_86) rfl k_) ?_
          show own_Go p e below _ T117 (mkF m 87 #[.val (.int a), .val (.long d), .second, .val (.int (1 : Int32)), .val (.int (1 : Int32)), .val (.int (2 : Int32)), .val (.ref nb111)] [(.long d), (.int (2 : Int32)), (.ref nb111)])
          refine own_st (fun t_ k_ => XS.iconst X117.here hx rfl (hb hby d2_87) k_) ?_
          show own_Go p e below _ T117 (mkF m 88 #[.val (.int a), .val (.long d), .second, .val (.int (1 : Int32)), .val (.int (1 : Int32)), .val (.int (2 : Int32)), .val (.ref nb111)] [(.int (0 : Int32)), (.long d), (.int (2 : Int32)), (.ref nb111)])
          refine own_callS X117 hx (y := (⟨"com/example/lean_pubsub/leanpubsub/codec/ProtocolVersionFindPinLaw", "pick", "(JI)C"⟩ : MethodName)) hown (mvT hZ (hw _ (List.mem_of_getElem? (i := 75) rfl))) (mvT hZ (hw _ (List.mem_of_getElem? (i := 76) rfl))) (mvT hZ (hw _ (List.mem_of_getElem? (i := 2) rfl))) (mvT hZ (hw _ (List.mem_of_getElem? (i := 77) rfl))) (by decide) (backOf (W := 2) (rmPK l Z a0 hw [] d (0 : Int32) h117 n0 (Nat.le_trans Z0 K117.1)) hZ (hw _ (List.mem_of_getElem? (i := 77) rfl)) (hw _ (List.mem_of_getElem? (i := 2) rfl)) (by decide) (by decide)) (g := (mkF m 88 #[.val (.int a), .val (.long d), .second, .val (.int (1 : Int32)), .val (.int (1 : Int32)), .val (.int (2 : Int32)), .val (.ref nb111)] [(.int (0 : Int32)), (.long d), (.int (2 : Int32)), (.ref nb111)])) rfl (by rw [hml]; rfl) (argsL := [(.long d), (.int (0 : Int32))]) (rest := [(.int (2 : Int32)), (.ref nb111)]) (lenOf pd_1 rfl) rfl (by show 2 * 0 + _ ≤ _; exact Nat.le_of_eq rfl) (hb hby d2_88) rfl e117 (by decide) (by decide) ?_
          rintro v146 T146 L146 X146 ⟨c146, rfl, Nq146, hh146, lc146⟩
          have N146 := Fr.app N117 Nq146
          show own_Go p e below _ T146 (mkF m 91 #[.val (.int a), .val (.long d), .second, .val (.int (1 : Int32)), .val (.int (1 : Int32)), .val (.int (2 : Int32)), .val (.ref nb111)] [(.int c146), (.int (2 : Int32)), (.ref nb111)])
          obtain ⟨cl147, Ar147, q147, S147, N147', H147, G147⟩ := id V117
          have hin147 : ¬ ((2 : Int32) < 0 ∨ cl147.slots.size ≤ ((2 : Int32)).toNatClampNeg) := inb_of S147 ⟨by decide, by decide⟩
          obtain ⟨T147, h147, X147, e147, W147, st147⟩ := stC X146 hx hZ hh146 Ar147 (j := (2 : Int32)) hin147 (g := (mkF m 91 #[.val (.int a), .val (.long d), .second, .val (.int (1 : Int32)), .val (.int (1 : Int32)), .val (.int (2 : Int32)), .val (.ref nb111)] [(.int c146), (.int (2 : Int32)), (.ref nb111)])) rfl rfl (hb hby d2_91)
          have V147 : Arv Z h147 nb111 k111 .char (6 : Int32) [(.int (77 : Int32)), (.int (81 : Int32)), (.int (nar .char c146)), (.int (115 : Int32)), (.int (100 : Int32)), (.int (112 : Int32))] (.int (0 : Int32)) := Arv.set Ar147 q147 S147 N147' H147 G147 (fits_nar_char _) W147 2 rfl (Nat.le_of_ble_eq_true rfl)
          refine own_st st147 ?_
          have N147 := Fr.snoc X147 N146 g_nb111
          have K147 : Keep h0 h147 [] := K117.wr W147 (Or.inr sz_nb111)
          show own_Go p e below _ T147 (mkF m 92 #[.val (.int a), .val (.long d), .second, .val (.int (1 : Int32)), .val (.int (1 : Int32)), .val (.int (2 : Int32)), .val (.ref nb111)] [])
          obtain ⟨T148, h148, X148, e148, E148, A148, D148, cel148, st148⟩ := newO X147 hx hZ hown (hw _ (List.mem_of_getElem? (i := 5) rfl)) (hw _ (List.mem_of_getElem? (i := 6) rfl)) (hw _ (List.mem_of_getElem? (i := 7) rfl)) e147 (g := (mkF m 92 #[.val (.int a), .val (.long d), .second, .val (.int (1 : Int32)), .val (.int (1 : Int32)), .val (.int (2 : Int32)), .val (.ref nb111)] [])) rfl (hb hby d2_92) (by decide) (by decide)
          obtain ⟨nb148, g148⟩ : ∃ z, z = h147.size := ⟨_, rfl⟩
          rw [← g148] at A148 D148 cel148 st148
          refine own_st st148 ?_
          have g_nb148 : n0 ≤ nb148 := Nat.le_trans (Nat.le_trans Z0 K147.1) (Nat.le_of_eq g148.symm)
          have K148 : Keep h0 h148 [] := K147.ext E148
          have sz_nb148 : h0.size ≤ nb148 := Nat.le_trans K147.1 (Nat.le_of_eq g148.symm)
          have F148_coder : Fld Z h148 nb148 "java/lang/String" "coder" "B" (.int (0 : Int32)) := D148 (Or.inr (hw _ (List.mem_of_getElem? (i := 31) rfl))) (ty := .byte) (by decide)
          have F148_value : Fld Z h148 nb148 "java/lang/String" "value" "[B" .null := D148 (Or.inr (hw _ (List.mem_of_getElem? (i := 33) rfl))) (ty := (.array .byte)) (by decide)
          show own_Go p e below _ T148 (mkF m 95 #[.val (.int a), .val (.long d), .second, .val (.int (1 : Int32)), .val (.int (1 : Int32)), .val (.int (2 : Int32)), .val (.ref nb111)] [(.ref nb148)])
          refine own_st (fun t_ k_ => XS.dup X148.here hx rfl (hb hby d2_95) rfl rfl k_) ?_
          show own_Go p e below _ T148 (mkF m 96 #[.val (.int a), .val (.long d), .second, .val (.int (1 : Int32)), .val (.int (1 : Int32)), .val (.int (2 : Int32)), .val (.ref nb111)] [(.ref nb148), (.ref nb148)])
          refine own_st (fun t_ k_ => XS.aload X148.here hx rfl (hb hby d2_96) rfl rfl k_) ?_
          show own_Go p e below _ T148 (mkF m 98 #[.val (.int a), .val (.long d), .second, .val (.int (1 : Int32)), .val (.int (1 : Int32)), .val (.int (2 : Int32)), .val (.ref nb111)] [(.ref nb111), (.ref nb148), (.ref nb148)])
          have hp149 : ∀ c ∈ ([(77 : Int32), (81 : Int32), (nar .char c146), (115 : Int32), (100 : Int32), (112 : Int32)] : List Int32), ¬ c < 0 ∧ ¬ (255 : Int32) < c := (own_lcons ⟨by decide, by decide⟩ (own_lcons ⟨by decide, by decide⟩ (own_lcons (own_LLN lc146) (own_lcons ⟨by decide, by decide⟩ (own_lcons ⟨by decide, by decide⟩ (own_lcons ⟨by decide, by decide⟩ own_lnil))))))
          have f150 := (V147.ext E148)
          have f151 := (O0.ext E111)
          have f152 := (f151.wr W112 g_nb111)
          have f153 := (f152.wr W113 g_nb111)
          have f154 := (f153.wr W114 g_nb111)
          have f155 := (f154.wr W115 g_nb111)
          have f156 := (f155.wr W116 g_nb111)
          have f157 := (f156.wr W117 g_nb111)
          have f158 := (f157.wr W147 g_nb111)
          have f159 := (f158.ext E148)
          refine own_callN X148 hx (y := (⟨"java/lang/String", "<init>", "([C)V"⟩ : MethodName)) rfl hown (mvT hZ (hw _ (List.mem_of_getElem? (i := 8) rfl))) (mvT hZ (hw _ (List.mem_of_getElem? (i := 9) rfl))) (mvT hZ (hw _ (List.mem_of_getElem? (i := 10) rfl))) (by decide) (StrChars.Road.backV (W := 1) hZ (own_words hw) (kI := 4) (hw _ (List.mem_of_getElem? (i := 6) rfl)) (cs := ([(77 : Int32), (81 : Int32), (nar .char c146), (115 : Int32), (100 : Int32), (112 : Int32)] : List Int32)) (bs := ([(77 : Int32), (81 : Int32), (nar .char c146), (115 : Int32), (100 : Int32), (112 : Int32)] : List Int32).map (fun c => c.toInt8.toInt32)) (n := 6) g_nb148 (Nat.le_trans Z0 K148.1) A148 F148_value F148_coder f150 (Sta.ext f159.2 SC) hCS rfl rfl (by decide) (by decide) hp149 rfl (by decide) (by decide)) (a := nb148) (g := (mkF m 98 #[.val (.int a), .val (.long d), .second, .val (.int (1 : Int32)), .val (.int (1 : Int32)), .val (.int (2 : Int32)), .val (.ref nb111)] [(.ref nb111), (.ref nb148), (.ref nb148)])) rfl (by rw [hml]; rfl) (argsL := [(.ref nb111)]) (rest := [(.ref nb148)]) (lenOf pd_0 rfl) rfl (by show 2 * 0 + _ ≤ _; exact Nat.le_of_eq rfl) (hb hby d2_98) rfl e148 (by decide) (by decide) ?_
          rintro v149 T149 L149 X149 ⟨rfl, Nq149, Kq149, Eq149, Cq149, t149, kb149, g_t149, gt149, nt149, Vq149, Aq149⟩
          have sz_t149 : h0.size ≤ t149 := Nat.le_trans K148.1 gt149
          have N149 := Fr.app N147 Nq149
          have K149 : Keep h0 T149.heap [] := K148.trans Kq149 (allS (Or.inr sz_nb148) all0)
          show own_Go p e below _ T149 (mkF m 101 #[.val (.int a), .val (.long d), .second, .val (.int (1 : Int32)), .val (.int (1 : Int32)), .val (.int (2 : Int32)), .val (.ref nb111)] [(.ref nb148)])
          refine own_retA X149 hx hlk Bd.returns rfl rfl (hb hby d2_101) ?_ (by decide) (by decide)
          show QNa Z h0 n0 _ T149.heap _
          exact ⟨([(77 : Int32), (81 : Int32), (nar .char c146), (115 : Int32), (100 : Int32), (112 : Int32)] : List Int32), Nat.le_of_ble_eq_true rfl, nb148, t149, kb149, rfl, N149, K149, sz_nb148, g_nb148, nt149, Eq149, Cq149, Vq149, Aq149, hp149⟩
        · show own_Go p e below _ T117 (mkF m 84 #[.val (.int a), .val (.long d), .second, .val (.int (1 : Int32)), .val (.int (1 : Int32)), .val (.int (3 : Int32)), .val (.ref nb111)] [(.ref nb111)])
          refine own_st (fun t_ k_ => XS.iload X117.here hx rfl (hb hby d2_84) rfl k_) ?_
          show own_Go p e below _ T117 (mkF m 86 #[.val (.int a), .val (.long d), .second, .val (.int (1 : Int32)), .val (.int (1 : Int32)), .val (.int (3 : Int32)), .val (.ref nb111)] [(.int (3 : Int32)), (.ref nb111)])
          refine own_st (fun t_ k_ => XS.lloadN X117.here hx rfl (hb hby d2_86) rfl k_) ?_
          show own_Go p e below _ T117 (mkF m 87 #[.val (.int a), .val (.long d), .second, .val (.int (1 : Int32)), .val (.int (1 : Int32)), .val (.int (3 : Int32)), .val (.ref nb111)] [(.long d), (.int (3 : Int32)), (.ref nb111)])
          refine own_st (fun t_ k_ => XS.iconst X117.here hx rfl (hb hby d2_87) k_) ?_
          show own_Go p e below _ T117 (mkF m 88 #[.val (.int a), .val (.long d), .second, .val (.int (1 : Int32)), .val (.int (1 : Int32)), .val (.int (3 : Int32)), .val (.ref nb111)] [(.int (0 : Int32)), (.long d), (.int (3 : Int32)), (.ref nb111)])
          refine own_callS X117 hx (y := (⟨"com/example/lean_pubsub/leanpubsub/codec/ProtocolVersionFindPinLaw", "pick", "(JI)C"⟩ : MethodName)) hown (mvT hZ (hw _ (List.mem_of_getElem? (i := 75) rfl))) (mvT hZ (hw _ (List.mem_of_getElem? (i := 76) rfl))) (mvT hZ (hw _ (List.mem_of_getElem? (i := 2) rfl))) (mvT hZ (hw _ (List.mem_of_getElem? (i := 77) rfl))) (by decide) (backOf (W := 2) (rmPK l Z a0 hw [] d (0 : Int32) h117 n0 (Nat.le_trans Z0 K117.1)) hZ (hw _ (List.mem_of_getElem? (i := 77) rfl)) (hw _ (List.mem_of_getElem? (i := 2) rfl)) (by decide) (by decide)) (g := (mkF m 88 #[.val (.int a), .val (.long d), .second, .val (.int (1 : Int32)), .val (.int (1 : Int32)), .val (.int (3 : Int32)), .val (.ref nb111)] [(.int (0 : Int32)), (.long d), (.int (3 : Int32)), (.ref nb111)])) rfl (by rw [hml]; rfl) (argsL := [(.long d), (.int (0 : Int32))]) (rest := [(.int (3 : Int32)), (.ref nb111)]) (lenOf pd_1 rfl) rfl (by show 2 * 0 + _ ≤ _; exact Nat.le_of_eq rfl) (hb hby d2_88) rfl e117 (by decide) (by decide) ?_
          rintro v160 T160 L160 X160 ⟨c160, rfl, Nq160, hh160, lc160⟩
          have N160 := Fr.app N117 Nq160
          show own_Go p e below _ T160 (mkF m 91 #[.val (.int a), .val (.long d), .second, .val (.int (1 : Int32)), .val (.int (1 : Int32)), .val (.int (3 : Int32)), .val (.ref nb111)] [(.int c160), (.int (3 : Int32)), (.ref nb111)])
          obtain ⟨cl161, Ar161, q161, S161, N161', H161, G161⟩ := id V117
          have hin161 : ¬ ((3 : Int32) < 0 ∨ cl161.slots.size ≤ ((3 : Int32)).toNatClampNeg) := inb_of S161 ⟨by decide, by decide⟩
          obtain ⟨T161, h161, X161, e161, W161, st161⟩ := stC X160 hx hZ hh160 Ar161 (j := (3 : Int32)) hin161 (g := (mkF m 91 #[.val (.int a), .val (.long d), .second, .val (.int (1 : Int32)), .val (.int (1 : Int32)), .val (.int (3 : Int32)), .val (.ref nb111)] [(.int c160), (.int (3 : Int32)), (.ref nb111)])) rfl rfl (hb hby d2_91)
          have V161 : Arv Z h161 nb111 k111 .char (6 : Int32) [(.int (77 : Int32)), (.int (81 : Int32)), (.int (73 : Int32)), (.int (nar .char c160)), (.int (100 : Int32)), (.int (112 : Int32))] (.int (0 : Int32)) := Arv.set Ar161 q161 S161 N161' H161 G161 (fits_nar_char _) W161 3 rfl (Nat.le_of_ble_eq_true rfl)
          refine own_st st161 ?_
          have N161 := Fr.snoc X161 N160 g_nb111
          have K161 : Keep h0 h161 [] := K117.wr W161 (Or.inr sz_nb111)
          show own_Go p e below _ T161 (mkF m 92 #[.val (.int a), .val (.long d), .second, .val (.int (1 : Int32)), .val (.int (1 : Int32)), .val (.int (3 : Int32)), .val (.ref nb111)] [])
          obtain ⟨T162, h162, X162, e162, E162, A162, D162, cel162, st162⟩ := newO X161 hx hZ hown (hw _ (List.mem_of_getElem? (i := 5) rfl)) (hw _ (List.mem_of_getElem? (i := 6) rfl)) (hw _ (List.mem_of_getElem? (i := 7) rfl)) e161 (g := (mkF m 92 #[.val (.int a), .val (.long d), .second, .val (.int (1 : Int32)), .val (.int (1 : Int32)), .val (.int (3 : Int32)), .val (.ref nb111)] [])) rfl (hb hby d2_92) (by decide) (by decide)
          obtain ⟨nb162, g162⟩ : ∃ z, z = h161.size := ⟨_, rfl⟩
          rw [← g162] at A162 D162 cel162 st162
          refine own_st st162 ?_
          have g_nb162 : n0 ≤ nb162 := Nat.le_trans (Nat.le_trans Z0 K161.1) (Nat.le_of_eq g162.symm)
          have K162 : Keep h0 h162 [] := K161.ext E162
          have sz_nb162 : h0.size ≤ nb162 := Nat.le_trans K161.1 (Nat.le_of_eq g162.symm)
          have F162_coder : Fld Z h162 nb162 "java/lang/String" "coder" "B" (.int (0 : Int32)) := D162 (Or.inr (hw _ (List.mem_of_getElem? (i := 31) rfl))) (ty := .byte) (by decide)
          have F162_value : Fld Z h162 nb162 "java/lang/String" "value" "[B" .null := D162 (Or.inr (hw _ (List.mem_of_getElem? (i := 33) rfl))) (ty := (.array .byte)) (by decide)
          show own_Go p e below _ T162 (mkF m 95 #[.val (.int a), .val (.long d), .second, .val (.int (1 : Int32)), .val (.int (1 : Int32)), .val (.int (3 : Int32)), .val (.ref nb111)] [(.ref nb162)])
          refine own_st (fun t_ k_ => XS.dup X162.here hx rfl (hb hby d2_95) rfl rfl k_) ?_
          show own_Go p e below _ T162 (mkF m 96 #[.val (.int a), .val (.long d), .second, .val (.int (1 : Int32)), .val (.int (1 : Int32)), .val (.int (3 : Int32)), .val (.ref nb111)] [(.ref nb162), (.ref nb162)])
          refine own_st (fun t_ k_ => XS.aload X162.here hx rfl (hb hby d2_96) rfl rfl k_) ?_
          show own_Go p e below _ T162 (mkF m 98 #[.val (.int a), .val (.long d), .second, .val (.int (1 : Int32)), .val (.int (1 : Int32)), .val (.int (3 : Int32)), .val (.ref nb111)] [(.ref nb111), (.ref nb162), (.ref nb162)])
          have hp163 : ∀ c ∈ ([(77 : Int32), (81 : Int32), (73 : Int32), (nar .char c160), (100 : Int32), (112 : Int32)] : List Int32), ¬ c < 0 ∧ ¬ (255 : Int32) < c := (own_lcons ⟨by decide, by decide⟩ (own_lcons ⟨by decide, by decide⟩ (own_lcons ⟨by decide, by decide⟩ (own_lcons (own_LLN lc160) (own_lcons ⟨by decide, by decide⟩ (own_lcons ⟨by decide, by decide⟩ own_lnil))))))
          have f164 := (V161.ext E162)
          have f165 := (O0.ext E111)
          have f166 := (f165.wr W112 g_nb111)
          have f167 := (f166.wr W113 g_nb111)
          have f168 := (f167.wr W114 g_nb111)
          have f169 := (f168.wr W115 g_nb111)
          have f170 := (f169.wr W116 g_nb111)
          have f171 := (f170.wr W117 g_nb111)
          have f172 := (f171.wr W161 g_nb111)
          have f173 := (f172.ext E162)
          refine own_callN X162 hx (y := (⟨"java/lang/String", "<init>", "([C)V"⟩ : MethodName)) rfl hown (mvT hZ (hw _ (List.mem_of_getElem? (i := 8) rfl))) (mvT hZ (hw _ (List.mem_of_getElem? (i := 9) rfl))) (mvT hZ (hw _ (List.mem_of_getElem? (i := 10) rfl))) (by decide) (StrChars.Road.backV (W := 1) hZ (own_words hw) (kI := 4) (hw _ (List.mem_of_getElem? (i := 6) rfl)) (cs := ([(77 : Int32), (81 : Int32), (73 : Int32), (nar .char c160), (100 : Int32), (112 : Int32)] : List Int32)) (bs := ([(77 : Int32), (81 : Int32), (73 : Int32), (nar .char c160), (100 : Int32), (112 : Int32)] : List Int32).map (fun c => c.toInt8.toInt32)) (n := 6) g_nb162 (Nat.le_trans Z0 K162.1) A162 F162_value F162_coder f164 (Sta.ext f173.2 SC) hCS rfl rfl (by decide) (by decide) hp163 rfl (by decide) (by decide)) (a := nb162) (g := (mkF m 98 #[.val (.int a), .val (.long d), .second, .val (.int (1 : Int32)), .val (.int (1 : Int32)), .val (.int (3 : Int32)), .val (.ref nb111)] [(.ref nb111), (.ref nb162), (.ref nb162)])) rfl (by rw [hml]; rfl) (argsL := [(.ref nb111)]) (rest := [(.ref nb162)]) (lenOf pd_0 rfl) rfl (by show 2 * 0 + _ ≤ _; exact Nat.le_of_eq rfl) (hb hby d2_98) rfl e162 (by decide) (by decide) ?_
          rintro v163 T163 L163 X163 ⟨rfl, Nq163, Kq163, Eq163, Cq163, t163, kb163, g_t163, gt163, nt163, Vq163, Aq163⟩
          have sz_t163 : h0.size ≤ t163 := Nat.le_trans K162.1 gt163
          have N163 := Fr.app N161 Nq163
          have K163 : Keep h0 T163.heap [] := K162.trans Kq163 (allS (Or.inr sz_nb162) all0)
          show own_Go p e below _ T163 (mkF m 101 #[.val (.int a), .val (.long d), .second, .val (.int (1 : Int32)), .val (.int (1 : Int32)), .val (.int (3 : Int32)), .val (.ref nb111)] [(.ref nb162)])
          refine own_retA X163 hx hlk Bd.returns rfl rfl (hb hby d2_101) ?_ (by decide) (by decide)
          show QNa Z h0 n0 _ T163.heap _
          exact ⟨([(77 : Int32), (81 : Int32), (73 : Int32), (nar .char c160), (100 : Int32), (112 : Int32)] : List Int32), Nat.le_of_ble_eq_true rfl, nb162, t163, kb163, rfl, N163, K163, sz_nb162, g_nb162, nt163, Eq163, Cq163, Vq163, Aq163, hp163⟩
        · show own_Go p e below _ T117 (mkF m 84 #[.val (.int a), .val (.long d), .second, .val (.int (1 : Int32)), .val (.int (1 : Int32)), .val (.int (4 : Int32)), .val (.ref nb111)] [(.ref nb111)])
          refine own_st (fun t_ k_ => XS.iload X117.here hx rfl (hb hby d2_84) rfl k_) ?_
          show own_Go p e below _ T117 (mkF m 86 #[.val (.int a), .val (.long d), .second, .val (.int (1 : Int32)), .val (.int (1 : Int32)), .val (.int (4 : Int32)), .val (.ref nb111)] [(.int (4 : Int32)), (.ref nb111)])
          refine own_st (fun t_ k_ => XS.lloadN X117.here hx rfl (hb hby d2_86) rfl k_) ?_
          show own_Go p e below _ T117 (mkF m 87 #[.val (.int a), .val (.long d), .second, .val (.int (1 : Int32)), .val (.int (1 : Int32)), .val (.int (4 : Int32)), .val (.ref nb111)] [(.long d), (.int (4 : Int32)), (.ref nb111)])
          refine own_st (fun t_ k_ => XS.iconst X117.here hx rfl (hb hby d2_87) k_) ?_
          show own_Go p e below _ T117 (mkF m 88 #[.val (.int a), .val (.long d), .second, .val (.int (1 : Int32)), .val (.int (1 : Int32)), .val (.int (4 : Int32)), .val (.ref nb111)] [(.int (0 : Int32)), (.long d), (.int (4 : Int32)), (.ref nb111)])
          refine own_callS X117 hx (y := (⟨"com/example/lean_pubsub/leanpubsub/codec/ProtocolVersionFindPinLaw", "pick", "(JI)C"⟩ : MethodName)) hown (mvT hZ (hw _ (List.mem_of_getElem? (i := 75) rfl))) (mvT hZ (hw _ (List.mem_of_getElem? (i := 76) rfl))) (mvT hZ (hw _ (List.mem_of_getElem? (i := 2) rfl))) (mvT hZ (hw _ (List.mem_of_getElem? (i := 77) rfl))) (by decide) (backOf (W := 2) (rmPK l Z a0 hw [] d (0 : Int32) h117 n0 (Nat.le_trans Z0 K117.1)) hZ (hw _ (List.mem_of_getElem? (i := 77) rfl)) (hw _ (List.mem_of_getElem? (i := 2) rfl)) (by decide) (by decide)) (g := (mkF m 88 #[.val (.int a), .val (.long d), .second, .val (.int (1 : Int32)), .val (.int (1 : Int32)), .val (.int (4 : Int32)), .val (.ref nb111)] [(.int (0 : Int32)), (.long d), (.int (4 : Int32)), (.ref nb111)])) rfl (by rw [hml]; rfl) (argsL := [(.long d), (.int (0 : Int32))]) (rest := [(.int (4 : Int32)), (.ref nb111)]) (lenOf pd_1 rfl) rfl (by show 2 * 0 + _ ≤ _; exact Nat.le_of_eq rfl) (hb hby d2_88) rfl e117 (by decide) (by decide) ?_
          rintro v174 T174 L174 X174 ⟨c174, rfl, Nq174, hh174, lc174⟩
          have N174 := Fr.app N117 Nq174
          show own_Go p e below _ T174 (mkF m 91 #[.val (.int a), .val (.long d), .second, .val (.int (1 : Int32)), .val (.int (1 : Int32)), .val (.int (4 : Int32)), .val (.ref nb111)] [(.int c174), (.int (4 : Int32)), (.ref nb111)])
          obtain ⟨cl175, Ar175, q175, S175, N175', H175, G175⟩ := id V117
          have hin175 : ¬ ((4 : Int32) < 0 ∨ cl175.slots.size ≤ ((4 : Int32)).toNatClampNeg) := inb_of S175 ⟨by decide, by decide⟩
          obtain ⟨T175, h175, X175, e175, W175, st175⟩ := stC X174 hx hZ hh174 Ar175 (j := (4 : Int32)) hin175 (g := (mkF m 91 #[.val (.int a), .val (.long d), .second, .val (.int (1 : Int32)), .val (.int (1 : Int32)), .val (.int (4 : Int32)), .val (.ref nb111)] [(.int c174), (.int (4 : Int32)), (.ref nb111)])) rfl rfl (hb hby d2_91)
          have V175 : Arv Z h175 nb111 k111 .char (6 : Int32) [(.int (77 : Int32)), (.int (81 : Int32)), (.int (73 : Int32)), (.int (115 : Int32)), (.int (nar .char c174)), (.int (112 : Int32))] (.int (0 : Int32)) := Arv.set Ar175 q175 S175 N175' H175 G175 (fits_nar_char _) W175 4 rfl (Nat.le_of_ble_eq_true rfl)
          refine own_st st175 ?_
          have N175 := Fr.snoc X175 N174 g_nb111
          have K175 : Keep h0 h175 [] := K117.wr W175 (Or.inr sz_nb111)
          show own_Go p e below _ T175 (mkF m 92 #[.val (.int a), .val (.long d), .second, .val (.int (1 : Int32)), .val (.int (1 : Int32)), .val (.int (4 : Int32)), .val (.ref nb111)] [])
          obtain ⟨T176, h176, X176, e176, E176, A176, D176, cel176, st176⟩ := newO X175 hx hZ hown (hw _ (List.mem_of_getElem? (i := 5) rfl)) (hw _ (List.mem_of_getElem? (i := 6) rfl)) (hw _ (List.mem_of_getElem? (i := 7) rfl)) e175 (g := (mkF m 92 #[.val (.int a), .val (.long d), .second, .val (.int (1 : Int32)), .val (.int (1 : Int32)), .val (.int (4 : Int32)), .val (.ref nb111)] [])) rfl (hb hby d2_92) (by decide) (by decide)
          obtain ⟨nb176, g176⟩ : ∃ z, z = h175.size := ⟨_, rfl⟩
          rw [← g176] at A176 D176 cel176 st176
          refine own_st st176 ?_
          have g_nb176 : n0 ≤ nb176 := Nat.le_trans (Nat.le_trans Z0 K175.1) (Nat.le_of_eq g176.symm)
          have K176 : Keep h0 h176 [] := K175.ext E176
          have sz_nb176 : h0.size ≤ nb176 := Nat.le_trans K175.1 (Nat.le_of_eq g176.symm)
          have F176_coder : Fld Z h176 nb176 "java/lang/String" "coder" "B" (.int (0 : Int32)) := D176 (Or.inr (hw _ (List.mem_of_getElem? (i := 31) rfl))) (ty := .byte) (by decide)
          have F176_value : Fld Z h176 nb176 "java/lang/String" "value" "[B" .null := D176 (Or.inr (hw _ (List.mem_of_getElem? (i := 33) rfl))) (ty := (.array .byte)) (by decide)
          show own_Go p e below _ T176 (mkF m 95 #[.val (.int a), .val (.long d), .second, .val (.int (1 : Int32)), .val (.int (1 : Int32)), .val (.int (4 : Int32)), .val (.ref nb111)] [(.ref nb176)])
          refine own_st (fun t_ k_ => XS.dup X176.here hx rfl (hb hby d2_95) rfl rfl k_) ?_
          show own_Go p e below _ T176 (mkF m 96 #[.val (.int a), .val (.long d), .second, .val (.int (1 : Int32)), .val (.int (1 : Int32)), .val (.int (4 : Int32)), .val (.ref nb111)] [(.ref nb176), (.ref nb176)])
          refine own_st (fun t_ k_ => XS.aload X176.here hx rfl (hb hby d2_96) rfl rfl k_) ?_
          show own_Go p e below _ T176 (mkF m 98 #[.val (.int a), .val (.long d), .second, .val (.int (1 : Int32)), .val (.int (1 : Int32)), .val (.int (4 : Int32)), .val (.ref nb111)] [(.ref nb111), (.ref nb176), (.ref nb176)])
          have hp177 : ∀ c ∈ ([(77 : Int32), (81 : Int32), (73 : Int32), (115 : Int32), (nar .char c174), (112 : Int32)] : List Int32), ¬ c < 0 ∧ ¬ (255 : Int32) < c := (own_lcons ⟨by decide, by decide⟩ (own_lcons ⟨by decide, by decide⟩ (own_lcons ⟨by decide, by decide⟩ (own_lcons ⟨by decide, by decide⟩ (own_lcons (own_LLN lc174) (own_lcons ⟨by decide, by decide⟩ own_lnil))))))
          have f178 := (V175.ext E176)
          have f179 := (O0.ext E111)
          have f180 := (f179.wr W112 g_nb111)
          have f181 := (f180.wr W113 g_nb111)
          have f182 := (f181.wr W114 g_nb111)
          have f183 := (f182.wr W115 g_nb111)
          have f184 := (f183.wr W116 g_nb111)
          have f185 := (f184.wr W117 g_nb111)
          have f186 := (f185.wr W175 g_nb111)
          have f187 := (f186.ext E176)
          refine own_callN X176 hx (y := (⟨"java/lang/String", "<init>", "([C)V"⟩ : MethodName)) rfl hown (mvT hZ (hw _ (List.mem_of_getElem? (i := 8) rfl))) (mvT hZ (hw _ (List.mem_of_getElem? (i := 9) rfl))) (mvT hZ (hw _ (List.mem_of_getElem? (i := 10) rfl))) (by decide) (StrChars.Road.backV (W := 1) hZ (own_words hw) (kI := 4) (hw _ (List.mem_of_getElem? (i := 6) rfl)) (cs := ([(77 : Int32), (81 : Int32), (73 : Int32), (115 : Int32), (nar .char c174), (112 : Int32)] : List Int32)) (bs := ([(77 : Int32), (81 : Int32), (73 : Int32), (115 : Int32), (nar .char c174), (112 : Int32)] : List Int32).map (fun c => c.toInt8.toInt32)) (n := 6) g_nb176 (Nat.le_trans Z0 K176.1) A176 F176_value F176_coder f178 (Sta.ext f187.2 SC) hCS rfl rfl (by decide) (by decide) hp177 rfl (by decide) (by decide)) (a := nb176) (g := (mkF m 98 #[.val (.int a), .val (.long d), .second, .val (.int (1 : Int32)), .val (.int (1 : Int32)), .val (.int (4 : Int32)), .val (.ref nb111)] [(.ref nb111), (.ref nb176), (.ref nb176)])) rfl (by rw [hml]; rfl) (argsL := [(.ref nb111)]) (rest := [(.ref nb176)]) (lenOf pd_0 rfl) rfl (by show 2 * 0 + _ ≤ _; exact Nat.le_of_eq rfl) (hb hby d2_98) rfl e176 (by decide) (by decide) ?_
          rintro v177 T177 L177 X177 ⟨rfl, Nq177, Kq177, Eq177, Cq177, t177, kb177, g_t177, gt177, nt177, Vq177, Aq177⟩
          have sz_t177 : h0.size ≤ t177 := Nat.le_trans K176.1 gt177
          have N177 := Fr.app N175 Nq177
          have K177 : Keep h0 T177.heap [] := K176.trans Kq177 (allS (Or.inr sz_nb176) all0)
          show own_Go p e below _ T177 (mkF m 101 #[.val (.int a), .val (.long d), .second, .val (.int (1 : Int32)), .val (.int (1 : Int32)), .val (.int (4 : Int32)), .val (.ref nb111)] [(.ref nb176)])
          refine own_retA X177 hx hlk Bd.returns rfl rfl (hb hby d2_101) ?_ (by decide) (by decide)
          show QNa Z h0 n0 _ T177.heap _
          exact ⟨([(77 : Int32), (81 : Int32), (73 : Int32), (115 : Int32), (nar .char c174), (112 : Int32)] : List Int32), Nat.le_of_ble_eq_true rfl, nb176, t177, kb177, rfl, N177, K177, sz_nb176, g_nb176, nt177, Eq177, Cq177, Vq177, Aq177, hp177⟩
        · show own_Go p e below _ T117 (mkF m 84 #[.val (.int a), .val (.long d), .second, .val (.int (1 : Int32)), .val (.int (1 : Int32)), .val (.int (5 : Int32)), .val (.ref nb111)] [(.ref nb111)])
          refine own_st (fun t_ k_ => XS.iload X117.here hx rfl (hb hby d2_84) rfl k_) ?_
          show own_Go p e below _ T117 (mkF m 86 #[.val (.int a), .val (.long d), .second, .val (.int (1 : Int32)), .val (.int (1 : Int32)), .val (.int (5 : Int32)), .val (.ref nb111)] [(.int (5 : Int32)), (.ref nb111)])
          refine own_st (fun t_ k_ => XS.lloadN X117.here hx rfl (hb hby d2_86) rfl k_) ?_
          show own_Go p e below _ T117 (mkF m 87 #[.val (.int a), .val (.long d), .second, .val (.int (1 : Int32)), .val (.int (1 : Int32)), .val (.int (5 : Int32)), .val (.ref nb111)] [(.long d), (.int (5 : Int32)), (.ref nb111)])
          refine own_st (fun t_ k_ => XS.iconst X117.here hx rfl (hb hby d2_87) k_) ?_
          show own_Go p e below _ T117 (mkF m 88 #[.val (.int a), .val (.long d), .second, .val (.int (1 : Int32)), .val (.int (1 : Int32)), .val (.int (5 : Int32)), .val (.ref nb111)] [(.int (0 : Int32)), (.long d), (.int (5 : Int32)), (.ref nb111)])
          refine own_callS X117 hx (y := (⟨"com/example/lean_pubsub/leanpubsub/codec/ProtocolVersionFindPinLaw", "pick", "(JI)C"⟩ : MethodName)) hown (mvT hZ (hw _ (List.mem_of_getElem? (i := 75) rfl))) (mvT hZ (hw _ (List.mem_of_getElem? (i := 76) rfl))) (mvT hZ (hw _ (List.mem_of_getElem? (i := 2) rfl))) (mvT hZ (hw _ (List.mem_of_getElem? (i := 77) rfl))) (by decide) (backOf (W := 2) (rmPK l Z a0 hw [] d (0 : Int32) h117 n0 (Nat.le_trans Z0 K117.1)) hZ (hw _ (List.mem_of_getElem? (i := 77) rfl)) (hw _ (List.mem_of_getElem? (i := 2) rfl)) (by decide) (by decide)) (g := (mkF m 88 #[.val (.int a), .val (.long d), .second, .val (.int (1 : Int32)), .val (.int (1 : Int32)), .val (.int (5 : Int32)), .val (.ref nb111)] [(.int (0 : Int32)), (.long d), (.int (5 : Int32)), (.ref nb111)])) rfl (by rw [hml]; rfl) (argsL := [(.long d), (.int (0 : Int32))]) (rest := [(.int (5 : Int32)), (.ref nb111)]) (lenOf pd_1 rfl) rfl (by show 2 * 0 + _ ≤ _; exact Nat.le_of_eq rfl) (hb hby d2_88) rfl e117 (by decide) (by decide) ?_
          rintro v188 T188 L188 X188 ⟨c188, rfl, Nq188, hh188, lc188⟩
          have N188 := Fr.app N117 Nq188
          show own_Go p e below _ T188 (mkF m 91 #[.val (.int a), .val (.long d), .second, .val (.int (1 : Int32)), .val (.int (1 : Int32)), .val (.int (5 : Int32)), .val (.ref nb111)] [(.int c188), (.int (5 : Int32)), (.ref nb111)])
          obtain ⟨cl189, Ar189, q189, S189, N189', H189, G189⟩ := id V117
          have hin189 : ¬ ((5 : Int32) < 0 ∨ cl189.slots.size ≤ ((5 : Int32)).toNatClampNeg) := inb_of S189 ⟨by decide, by decide⟩
          obtain ⟨T189, h189, X189, e189, W189, st189⟩ := stC X188 hx hZ hh188 Ar189 (j := (5 : Int32)) hin189 (g := (mkF m 91 #[.val (.int a), .val (.long d), .second, .val (.int (1 : Int32)), .val (.int (1 : Int32)), .val (.int (5 : Int32)), .val (.ref nb111)] [(.int c188), (.int (5 : Int32)), (.ref nb111)])) rfl rfl (hb hby d2_91)
          have V189 : Arv Z h189 nb111 k111 .char (6 : Int32) [(.int (77 : Int32)), (.int (81 : Int32)), (.int (73 : Int32)), (.int (115 : Int32)), (.int (100 : Int32)), (.int (nar .char c188))] (.int (0 : Int32)) := Arv.set Ar189 q189 S189 N189' H189 G189 (fits_nar_char _) W189 5 rfl (Nat.le_of_ble_eq_true rfl)
          refine own_st st189 ?_
          have N189 := Fr.snoc X189 N188 g_nb111
          have K189 : Keep h0 h189 [] := K117.wr W189 (Or.inr sz_nb111)
          show own_Go p e below _ T189 (mkF m 92 #[.val (.int a), .val (.long d), .second, .val (.int (1 : Int32)), .val (.int (1 : Int32)), .val (.int (5 : Int32)), .val (.ref nb111)] [])
          obtain ⟨T190, h190, X190, e190, E190, A190, D190, cel190, st190⟩ := newO X189 hx hZ hown (hw _ (List.mem_of_getElem? (i := 5) rfl)) (hw _ (List.mem_of_getElem? (i := 6) rfl)) (hw _ (List.mem_of_getElem? (i := 7) rfl)) e189 (g := (mkF m 92 #[.val (.int a), .val (.long d), .second, .val (.int (1 : Int32)), .val (.int (1 : Int32)), .val (.int (5 : Int32)), .val (.ref nb111)] [])) rfl (hb hby d2_92) (by decide) (by decide)
          obtain ⟨nb190, g190⟩ : ∃ z, z = h189.size := ⟨_, rfl⟩
          rw [← g190] at A190 D190 cel190 st190
          refine own_st st190 ?_
          have g_nb190 : n0 ≤ nb190 := Nat.le_trans (Nat.le_trans Z0 K189.1) (Nat.le_of_eq g190.symm)
          have K190 : Keep h0 h190 [] := K189.ext E190
          have sz_nb190 : h0.size ≤ nb190 := Nat.le_trans K189.1 (Nat.le_of_eq g190.symm)
          have F190_coder : Fld Z h190 nb190 "java/lang/String" "coder" "B" (.int (0 : Int32)) := D190 (Or.inr (hw _ (List.mem_of_getElem? (i := 31) rfl))) (ty := .byte) (by decide)
          have F190_value : Fld Z h190 nb190 "java/lang/String" "value" "[B" .null := D190 (Or.inr (hw _ (List.mem_of_getElem? (i := 33) rfl))) (ty := (.array .byte)) (by decide)
          show own_Go p e below _ T190 (mkF m 95 #[.val (.int a), .val (.long d), .second, .val (.int (1 : Int32)), .val (.int (1 : Int32)), .val (.int (5 : Int32)), .val (.ref nb111)] [(.ref nb190)])
          refine own_st (fun t_ k_ => XS.dup X190.here hx rfl (hb hby d2_95) rfl rfl k_) ?_
          show own_Go p e below _ T190 (mkF m 96 #[.val (.int a), .val (.long d), .second, .val (.int (1 : Int32)), .val (.int (1 : Int32)), .val (.int (5 : Int32)), .val (.ref nb111)] [(.ref nb190), (.ref nb190)])
          refine own_st (fun t_ k_ => XS.aload X190.here hx rfl (hb hby d2_96) rfl rfl k_) ?_
          show own_Go p e below _ T190 (mkF m 98 #[.val (.int a), .val (.long d), .second, .val (.int (1 : Int32)), .val (.int (1 : Int32)), .val (.int (5 : Int32)), .val (.ref nb111)] [(.ref nb111), (.ref nb190), (.ref nb190)])
          have hp191 : ∀ c ∈ ([(77 : Int32), (81 : Int32), (73 : Int32), (115 : Int32), (100 : Int32), (nar .char c188)] : List Int32), ¬ c < 0 ∧ ¬ (255 : Int32) < c := (own_lcons ⟨by decide, by decide⟩ (own_lcons ⟨by decide, by decide⟩ (own_lcons ⟨by decide, by decide⟩ (own_lcons ⟨by decide, by decide⟩ (own_lcons ⟨by decide, by decide⟩ (own_lcons (own_LLN lc188) own_lnil))))))
          have f192 := (V189.ext E190)
          have f193 := (O0.ext E111)
          have f194 := (f193.wr W112 g_nb111)
          have f195 := (f194.wr W113 g_nb111)
          have f196 := (f195.wr W114 g_nb111)
          have f197 := (f196.wr W115 g_nb111)
          have f198 := (f197.wr W116 g_nb111)
          have f199 := (f198.wr W117 g_nb111)
          have f200 := (f199.wr W189 g_nb111)
          have f201 := (f200.ext E190)
          refine own_callN X190 hx (y := (⟨"java/lang/String", "<init>", "([C)V"⟩ : MethodName)) rfl hown (mvT hZ (hw _ (List.mem_of_getElem? (i := 8) rfl))) (mvT hZ (hw _ (List.mem_of_getElem? (i := 9) rfl))) (mvT hZ (hw _ (List.mem_of_getElem? (i := 10) rfl))) (by decide) (StrChars.Road.backV (W := 1) hZ (own_words hw) (kI := 4) (hw _ (List.mem_of_getElem? (i := 6) rfl)) (cs := ([(77 : Int32), (81 : Int32), (73 : Int32), (115 : Int32), (100 : Int32), (nar .char c188)] : List Int32)) (bs := ([(77 : Int32), (81 : Int32), (73 : Int32), (115 : Int32), (100 : Int32), (nar .char c188)] : List Int32).map (fun c => c.toInt8.toInt32)) (n := 6) g_nb190 (Nat.le_trans Z0 K190.1) A190 F190_value F190_coder f192 (Sta.ext f201.2 SC) hCS rfl rfl (by decide) (by decide) hp191 rfl (by decide) (by decide)) (a := nb190) (g := (mkF m 98 #[.val (.int a), .val (.long d), .second, .val (.int (1 : Int32)), .val (.int (1 : Int32)), .val (.int (5 : Int32)), .val (.ref nb111)] [(.ref nb111), (.ref nb190), (.ref nb190)])) rfl (by rw [hml]; rfl) (argsL := [(.ref nb111)]) (rest := [(.ref nb190)]) (lenOf pd_0 rfl) rfl (by show 2 * 0 + _ ≤ _; exact Nat.le_of_eq rfl) (hb hby d2_98) rfl e190 (by decide) (by decide) ?_
          rintro v191 T191 L191 X191 ⟨rfl, Nq191, Kq191, Eq191, Cq191, t191, kb191, g_t191, gt191, nt191, Vq191, Aq191⟩
          have sz_t191 : h0.size ≤ t191 := Nat.le_trans K190.1 gt191
          have N191 := Fr.app N189 Nq191
          have K191 : Keep h0 T191.heap [] := K190.trans Kq191 (allS (Or.inr sz_nb190) all0)
          show own_Go p e below _ T191 (mkF m 101 #[.val (.int a), .val (.long d), .second, .val (.int (1 : Int32)), .val (.int (1 : Int32)), .val (.int (5 : Int32)), .val (.ref nb111)] [(.ref nb190)])
          refine own_retA X191 hx hlk Bd.returns rfl rfl (hb hby d2_101) ?_ (by decide) (by decide)
          show QNa Z h0 n0 _ T191.heap _
          exact ⟨([(77 : Int32), (81 : Int32), (73 : Int32), (115 : Int32), (100 : Int32), (nar .char c188)] : List Int32), Nat.le_of_ble_eq_true rfl, nb190, t191, kb191, rfl, N191, K191, sz_nb190, g_nb190, nt191, Eq191, Cq191, Vq191, Aq191, hp191⟩
    · show own_Go p e below _ s₁ (mkF m 28 #[.val (.int a), .val (.long d), .second, .val (.int (2 : Int32)), .val (.int b4), .val (.int ps), .unset] [(.int (2 : Int32))])
      refine own_st (fun t_ k_ => XS.ifNo X0.here hx rfl (hb hby d2_28) rfl (by decide) k_) ?_
      show own_Go p e below _ s₁ (mkF m 31 #[.val (.int a), .val (.long d), .second, .val (.int (2 : Int32)), .val (.int b4), .val (.int ps), .unset] [])
      refine own_st (fun t_ k_ => XS.iloadN X0.here hx rfl (hb hby d2_31) rfl k_) ?_
      show own_Go p e below _ s₁ (mkF m 32 #[.val (.int a), .val (.long d), .second, .val (.int (2 : Int32)), .val (.int b4), .val (.int ps), .unset] [(.int (2 : Int32))])
      refine own_st (fun t_ k_ => XS.iconst X0.here hx rfl (hb hby d2_32) k_) ?_
      show own_Go p e below _ s₁ (mkF m 33 #[.val (.int a), .val (.long d), .second, .val (.int (2 : Int32)), .val (.int b4), .val (.int ps), .unset] [(.int (1 : Int32)), (.int (2 : Int32))])
      refine own_st (fun t_ k_ => XS.icmpYes X0.here hx rfl (pc0 := 33) (pc' := 154) rfl (hb hby d2_33) rfl (by decide) (by decide) (by decide) k_) ?_
      show own_Go p e below _ s₁ (mkF m 154 #[.val (.int a), .val (.long d), .second, .val (.int (2 : Int32)), .val (.int b4), .val (.int ps), .unset] [])
      refine own_st (fun t_ k_ => XS.iloadN X0.here hx rfl (hb hby d2_154) rfl k_) ?_
      show own_Go p e below _ s₁ (mkF m 155 #[.val (.int a), .val (.long d), .second, .val (.int (2 : Int32)), .val (.int b4), .val (.int ps), .unset] [(.int (2 : Int32))])
      refine own_st (fun t_ k_ => XS.iconst X0.here hx rfl (hb hby d2_155) k_) ?_
      show own_Go p e below _ s₁ (mkF m 156 #[.val (.int a), .val (.long d), .second, .val (.int (2 : Int32)), .val (.int b4), .val (.int ps), .unset] [(.int (2 : Int32)), (.int (2 : Int32))])
      refine own_st (fun t_ k_ => XS.icmpNo X0.here hx rfl (hb hby d2_156) rfl (by decide) k_) ?_
      show own_Go p e below _ s₁ (mkF m 159 #[.val (.int a), .val (.long d), .second, .val (.int (2 : Int32)), .val (.int b4), .val (.int ps), .unset] [])
      refine own_st (fun t_ k_ => XS.iconst X0.here hx rfl (hb hby d2_159) k_) ?_
      show own_Go p e below _ s₁ (mkF m 160 #[.val (.int a), .val (.long d), .second, .val (.int (2 : Int32)), .val (.int b4), .val (.int ps), .unset] [(.int (4 : Int32))])
      obtain ⟨T202, h202, k202, X202, e202, E202, A202, st202⟩ := newP X0 hx hZ (hw _ (List.mem_of_getElem? (i := 4) rfl)) e0 (g := (mkF m 160 #[.val (.int a), .val (.long d), .second, .val (.int (2 : Int32)), .val (.int b4), .val (.int ps), .unset] [(.int (4 : Int32))])) rfl (hb hby d2_160) rfl (by decide) (cap := 4) (by decide) (by decide) (by decide) (by decide)
      obtain ⟨nb202, g202⟩ : ∃ z, z = h0.size := ⟨_, rfl⟩
      rw [← g202] at A202 st202
      refine own_st st202 ?_
      have g_nb202 : n0 ≤ nb202 := Nat.le_trans (Nat.le_trans Z0 (Keep.refl h0 []).1) (Nat.le_of_eq g202.symm)
      have K202 : Keep h0 h202 [] := (Keep.refl h0 []).ext E202
      have sz_nb202 : h0.size ≤ nb202 := Nat.le_trans (Keep.refl h0 []).1 (Nat.le_of_eq g202.symm)
      have V202 : Arv Z h202 nb202 k202 .char (4 : Int32) [(.int (0 : Int32)), (.int (0 : Int32)), (.int (0 : Int32)), (.int (0 : Int32))] (.int (0 : Int32)) := (Arv.new A202 (by decide)).pad (pad_rep [] (.int (0 : Int32)) 4)
      show own_Go p e below _ T202 (mkF m 162 #[.val (.int a), .val (.long d), .second, .val (.int (2 : Int32)), .val (.int b4), .val (.int ps), .unset] [(.ref nb202)])
      refine own_st (fun t_ k_ => XS.dup X202.here hx rfl (hb hby d2_162) rfl rfl k_) ?_
      show own_Go p e below _ T202 (mkF m 163 #[.val (.int a), .val (.long d), .second, .val (.int (2 : Int32)), .val (.int b4), .val (.int ps), .unset] [(.ref nb202), (.ref nb202)])
      refine own_st (fun t_ k_ => XS.iconst X202.here hx rfl (hb hby d2_163) k_) ?_
      show own_Go p e below _ T202 (mkF m 164 #[.val (.int a), .val (.long d), .second, .val (.int (2 : Int32)), .val (.int b4), .val (.int ps), .unset] [(.int (0 : Int32)), (.ref nb202), (.ref nb202)])
      refine own_st (fun t_ k_ => XS.lloadN X202.here hx rfl (hb hby d2_164) rfl k_) ?_
      show own_Go p e below _ T202 (mkF m 165 #[.val (.int a), .val (.long d), .second, .val (.int (2 : Int32)), .val (.int b4), .val (.int ps), .unset] [(.long d), (.int (0 : Int32)), (.ref nb202), (.ref nb202)])
      refine own_st (fun t_ k_ => XS.iconst X202.here hx rfl (hb hby d2_165) k_) ?_
      show own_Go p e below _ T202 (mkF m 166 #[.val (.int a), .val (.long d), .second, .val (.int (2 : Int32)), .val (.int b4), .val (.int ps), .unset] [(.int (0 : Int32)), (.long d), (.int (0 : Int32)), (.ref nb202), (.ref nb202)])
      refine own_callS X202 hx (y := (⟨"com/example/lean_pubsub/leanpubsub/codec/ProtocolVersionFindPinLaw", "pick", "(JI)C"⟩ : MethodName)) hown (mvT hZ (hw _ (List.mem_of_getElem? (i := 75) rfl))) (mvT hZ (hw _ (List.mem_of_getElem? (i := 76) rfl))) (mvT hZ (hw _ (List.mem_of_getElem? (i := 2) rfl))) (mvT hZ (hw _ (List.mem_of_getElem? (i := 77) rfl))) (by decide) (backOf (W := 3) (rmPK l Z a0 hw [] d (0 : Int32) h202 n0 (Nat.le_trans Z0 K202.1)) hZ (hw _ (List.mem_of_getElem? (i := 77) rfl)) (hw _ (List.mem_of_getElem? (i := 2) rfl)) (by decide) (by decide)) (g := (mkF m 166 #[.val (.int a), .val (.long d), .second, .val (.int (2 : Int32)), .val (.int b4), .val (.int ps), .unset] [(.int (0 : Int32)), (.long d), (.int (0 : Int32)), (.ref nb202), (.ref nb202)])) rfl (by rw [hml]; rfl) (argsL := [(.long d), (.int (0 : Int32))]) (rest := [(.int (0 : Int32)), (.ref nb202), (.ref nb202)]) (lenOf pd_1 rfl) rfl (by show 2 * 0 + _ ≤ _; exact Nat.le_of_eq rfl) (hb hby d2_166) rfl e202 (by decide) (by decide) ?_
      rintro v203 T203 L203 X203 ⟨c203, rfl, Nq203, hh203, lc203⟩
      have N203 := Fr.app N0 Nq203
      show own_Go p e below _ T203 (mkF m 169 #[.val (.int a), .val (.long d), .second, .val (.int (2 : Int32)), .val (.int b4), .val (.int ps), .unset] [(.int c203), (.int (0 : Int32)), (.ref nb202), (.ref nb202)])
      obtain ⟨cl204, Ar204, q204, S204, N204', H204, G204⟩ := id V202
      have hin204 : ¬ ((0 : Int32) < 0 ∨ cl204.slots.size ≤ ((0 : Int32)).toNatClampNeg) := inb_of S204 ⟨by decide, by decide⟩
      obtain ⟨T204, h204, X204, e204, W204, st204⟩ := stC X203 hx hZ hh203 Ar204 (j := (0 : Int32)) hin204 (g := (mkF m 169 #[.val (.int a), .val (.long d), .second, .val (.int (2 : Int32)), .val (.int b4), .val (.int ps), .unset] [(.int c203), (.int (0 : Int32)), (.ref nb202), (.ref nb202)])) rfl rfl (hb hby d2_169)
      have V204 : Arv Z h204 nb202 k202 .char (4 : Int32) [(.int (nar .char c203)), (.int (0 : Int32)), (.int (0 : Int32)), (.int (0 : Int32))] (.int (0 : Int32)) := Arv.set Ar204 q204 S204 N204' H204 G204 (fits_nar_char _) W204 0 rfl (Nat.le_of_ble_eq_true rfl)
      refine own_st st204 ?_
      have N204 := Fr.snoc X204 N203 g_nb202
      have K204 : Keep h0 h204 [] := K202.wr W204 (Or.inr sz_nb202)
      show own_Go p e below _ T204 (mkF m 170 #[.val (.int a), .val (.long d), .second, .val (.int (2 : Int32)), .val (.int b4), .val (.int ps), .unset] [(.ref nb202)])
      refine own_st (fun t_ k_ => XS.dup X204.here hx rfl (hb hby d2_170) rfl rfl k_) ?_
      show own_Go p e below _ T204 (mkF m 171 #[.val (.int a), .val (.long d), .second, .val (.int (2 : Int32)), .val (.int b4), .val (.int ps), .unset] [(.ref nb202), (.ref nb202)])
      refine own_st (fun t_ k_ => XS.iconst X204.here hx rfl (hb hby d2_171) k_) ?_
      show own_Go p e below _ T204 (mkF m 172 #[.val (.int a), .val (.long d), .second, .val (.int (2 : Int32)), .val (.int b4), .val (.int ps), .unset] [(.int (1 : Int32)), (.ref nb202), (.ref nb202)])
      refine own_st (fun t_ k_ => XS.lloadN X204.here hx rfl (hb hby d2_172) rfl k_) ?_
      show own_Go p e below _ T204 (mkF m 173 #[.val (.int a), .val (.long d), .second, .val (.int (2 : Int32)), .val (.int b4), .val (.int ps), .unset] [(.long d), (.int (1 : Int32)), (.ref nb202), (.ref nb202)])
      refine own_st (fun t_ k_ => XS.iconst X204.here hx rfl (hb hby d2_173) k_) ?_
      show own_Go p e below _ T204 (mkF m 174 #[.val (.int a), .val (.long d), .second, .val (.int (2 : Int32)), .val (.int b4), .val (.int ps), .unset] [(.int (1 : Int32)), (.long d), (.int (1 : Int32)), (.ref nb202), (.ref nb202)])
      refine own_callS X204 hx (y := (⟨"com/example/lean_pubsub/leanpubsub/codec/ProtocolVersionFindPinLaw", "pick", "(JI)C"⟩ : MethodName)) hown (mvT hZ (hw _ (List.mem_of_getElem? (i := 75) rfl))) (mvT hZ (hw _ (List.mem_of_getElem? (i := 76) rfl))) (mvT hZ (hw _ (List.mem_of_getElem? (i := 2) rfl))) (mvT hZ (hw _ (List.mem_of_getElem? (i := 77) rfl))) (by decide) (backOf (W := 3) (rmPK l Z a0 hw [] d (1 : Int32) h204 n0 (Nat.le_trans Z0 K204.1)) hZ (hw _ (List.mem_of_getElem? (i := 77) rfl)) (hw _ (List.mem_of_getElem? (i := 2) rfl)) (by decide) (by decide)) (g := (mkF m 174 #[.val (.int a), .val (.long d), .second, .val (.int (2 : Int32)), .val (.int b4), .val (.int ps), .unset] [(.int (1 : Int32)), (.long d), (.int (1 : Int32)), (.ref nb202), (.ref nb202)])) rfl (by rw [hml]; rfl) (argsL := [(.long d), (.int (1 : Int32))]) (rest := [(.int (1 : Int32)), (.ref nb202), (.ref nb202)]) (lenOf pd_1 rfl) rfl (by show 2 * 0 + _ ≤ _; exact Nat.le_of_eq rfl) (hb hby d2_174) rfl e204 (by decide) (by decide) ?_
      rintro v205 T205 L205 X205 ⟨c205, rfl, Nq205, hh205, lc205⟩
      have N205 := Fr.app N204 Nq205
      show own_Go p e below _ T205 (mkF m 177 #[.val (.int a), .val (.long d), .second, .val (.int (2 : Int32)), .val (.int b4), .val (.int ps), .unset] [(.int c205), (.int (1 : Int32)), (.ref nb202), (.ref nb202)])
      obtain ⟨cl206, Ar206, q206, S206, N206', H206, G206⟩ := id V204
      have hin206 : ¬ ((1 : Int32) < 0 ∨ cl206.slots.size ≤ ((1 : Int32)).toNatClampNeg) := inb_of S206 ⟨by decide, by decide⟩
      obtain ⟨T206, h206, X206, e206, W206, st206⟩ := stC X205 hx hZ hh205 Ar206 (j := (1 : Int32)) hin206 (g := (mkF m 177 #[.val (.int a), .val (.long d), .second, .val (.int (2 : Int32)), .val (.int b4), .val (.int ps), .unset] [(.int c205), (.int (1 : Int32)), (.ref nb202), (.ref nb202)])) rfl rfl (hb hby d2_177)
      have V206 : Arv Z h206 nb202 k202 .char (4 : Int32) [(.int (nar .char c203)), (.int (nar .char c205)), (.int (0 : Int32)), (.int (0 : Int32))] (.int (0 : Int32)) := Arv.set Ar206 q206 S206 N206' H206 G206 (fits_nar_char _) W206 1 rfl (Nat.le_of_ble_eq_true rfl)
      refine own_st st206 ?_
      have N206 := Fr.snoc X206 N205 g_nb202
      have K206 : Keep h0 h206 [] := K204.wr W206 (Or.inr sz_nb202)
      show own_Go p e below _ T206 (mkF m 178 #[.val (.int a), .val (.long d), .second, .val (.int (2 : Int32)), .val (.int b4), .val (.int ps), .unset] [(.ref nb202)])
      refine own_st (fun t_ k_ => XS.dup X206.here hx rfl (hb hby d2_178) rfl rfl k_) ?_
      show own_Go p e below _ T206 (mkF m 179 #[.val (.int a), .val (.long d), .second, .val (.int (2 : Int32)), .val (.int b4), .val (.int ps), .unset] [(.ref nb202), (.ref nb202)])
      refine own_st (fun t_ k_ => XS.iconst X206.here hx rfl (hb hby d2_179) k_) ?_
      show own_Go p e below _ T206 (mkF m 180 #[.val (.int a), .val (.long d), .second, .val (.int (2 : Int32)), .val (.int b4), .val (.int ps), .unset] [(.int (2 : Int32)), (.ref nb202), (.ref nb202)])
      refine own_st (fun t_ k_ => XS.lloadN X206.here hx rfl (hb hby d2_180) rfl k_) ?_
      show own_Go p e below _ T206 (mkF m 181 #[.val (.int a), .val (.long d), .second, .val (.int (2 : Int32)), .val (.int b4), .val (.int ps), .unset] [(.long d), (.int (2 : Int32)), (.ref nb202), (.ref nb202)])
      refine own_st (fun t_ k_ => XS.iconst X206.here hx rfl (hb hby d2_181) k_) ?_
      show own_Go p e below _ T206 (mkF m 182 #[.val (.int a), .val (.long d), .second, .val (.int (2 : Int32)), .val (.int b4), .val (.int ps), .unset] [(.int (2 : Int32)), (.long d), (.int (2 : Int32)), (.ref nb202), (.ref nb202)])
      refine own_callS X206 hx (y := (⟨"com/example/lean_pubsub/leanpubsub/codec/ProtocolVersionFindPinLaw", "pick", "(JI)C"⟩ : MethodName)) hown (mvT hZ (hw _ (List.mem_of_getElem? (i := 75) rfl))) (mvT hZ (hw _ (List.mem_of_getElem? (i := 76) rfl))) (mvT hZ (hw _ (List.mem_of_getElem? (i := 2) rfl))) (mvT hZ (hw _ (List.mem_of_getElem? (i := 77) rfl))) (by decide) (backOf (W := 3) (rmPK l Z a0 hw [] d (2 : Int32) h206 n0 (Nat.le_trans Z0 K206.1)) hZ (hw _ (List.mem_of_getElem? (i := 77) rfl)) (hw _ (List.mem_of_getElem? (i := 2) rfl)) (by decide) (by decide)) (g := (mkF m 182 #[.val (.int a), .val (.long d), .second, .val (.int (2 : Int32)), .val (.int b4), .val (.int ps), .unset] [(.int (2 : Int32)), (.long d), (.int (2 : Int32)), (.ref nb202), (.ref nb202)])) rfl (by rw [hml]; rfl) (argsL := [(.long d), (.int (2 : Int32))]) (rest := [(.int (2 : Int32)), (.ref nb202), (.ref nb202)]) (lenOf pd_1 rfl) rfl (by show 2 * 0 + _ ≤ _; exact Nat.le_of_eq rfl) (hb hby d2_182) rfl e206 (by decide) (by decide) ?_
      rintro v207 T207 L207 X207 ⟨c207, rfl, Nq207, hh207, lc207⟩
      have N207 := Fr.app N206 Nq207
      show own_Go p e below _ T207 (mkF m 185 #[.val (.int a), .val (.long d), .second, .val (.int (2 : Int32)), .val (.int b4), .val (.int ps), .unset] [(.int c207), (.int (2 : Int32)), (.ref nb202), (.ref nb202)])
      obtain ⟨cl208, Ar208, q208, S208, N208', H208, G208⟩ := id V206
      have hin208 : ¬ ((2 : Int32) < 0 ∨ cl208.slots.size ≤ ((2 : Int32)).toNatClampNeg) := inb_of S208 ⟨by decide, by decide⟩
      obtain ⟨T208, h208, X208, e208, W208, st208⟩ := stC X207 hx hZ hh207 Ar208 (j := (2 : Int32)) hin208 (g := (mkF m 185 #[.val (.int a), .val (.long d), .second, .val (.int (2 : Int32)), .val (.int b4), .val (.int ps), .unset] [(.int c207), (.int (2 : Int32)), (.ref nb202), (.ref nb202)])) rfl rfl (hb hby d2_185)
      have V208 : Arv Z h208 nb202 k202 .char (4 : Int32) [(.int (nar .char c203)), (.int (nar .char c205)), (.int (nar .char c207)), (.int (0 : Int32))] (.int (0 : Int32)) := Arv.set Ar208 q208 S208 N208' H208 G208 (fits_nar_char _) W208 2 rfl (Nat.le_of_ble_eq_true rfl)
      refine own_st st208 ?_
      have N208 := Fr.snoc X208 N207 g_nb202
      have K208 : Keep h0 h208 [] := K206.wr W208 (Or.inr sz_nb202)
      show own_Go p e below _ T208 (mkF m 186 #[.val (.int a), .val (.long d), .second, .val (.int (2 : Int32)), .val (.int b4), .val (.int ps), .unset] [(.ref nb202)])
      refine own_st (fun t_ k_ => XS.dup X208.here hx rfl (hb hby d2_186) rfl rfl k_) ?_
      show own_Go p e below _ T208 (mkF m 187 #[.val (.int a), .val (.long d), .second, .val (.int (2 : Int32)), .val (.int b4), .val (.int ps), .unset] [(.ref nb202), (.ref nb202)])
      refine own_st (fun t_ k_ => XS.iconst X208.here hx rfl (hb hby d2_187) k_) ?_
      show own_Go p e below _ T208 (mkF m 188 #[.val (.int a), .val (.long d), .second, .val (.int (2 : Int32)), .val (.int b4), .val (.int ps), .unset] [(.int (3 : Int32)), (.ref nb202), (.ref nb202)])
      refine own_st (fun t_ k_ => XS.lloadN X208.here hx rfl (hb hby d2_188) rfl k_) ?_
      show own_Go p e below _ T208 (mkF m 189 #[.val (.int a), .val (.long d), .second, .val (.int (2 : Int32)), .val (.int b4), .val (.int ps), .unset] [(.long d), (.int (3 : Int32)), (.ref nb202), (.ref nb202)])
      refine own_st (fun t_ k_ => XS.iconst X208.here hx rfl (hb hby d2_189) k_) ?_
      show own_Go p e below _ T208 (mkF m 190 #[.val (.int a), .val (.long d), .second, .val (.int (2 : Int32)), .val (.int b4), .val (.int ps), .unset] [(.int (3 : Int32)), (.long d), (.int (3 : Int32)), (.ref nb202), (.ref nb202)])
      refine own_callS X208 hx (y := (⟨"com/example/lean_pubsub/leanpubsub/codec/ProtocolVersionFindPinLaw", "pick", "(JI)C"⟩ : MethodName)) hown (mvT hZ (hw _ (List.mem_of_getElem? (i := 75) rfl))) (mvT hZ (hw _ (List.mem_of_getElem? (i := 76) rfl))) (mvT hZ (hw _ (List.mem_of_getElem? (i := 2) rfl))) (mvT hZ (hw _ (List.mem_of_getElem? (i := 77) rfl))) (by decide) (backOf (W := 3) (rmPK l Z a0 hw [] d (3 : Int32) h208 n0 (Nat.le_trans Z0 K208.1)) hZ (hw _ (List.mem_of_getElem? (i := 77) rfl)) (hw _ (List.mem_of_getElem? (i := 2) rfl)) (by decide) (by decide)) (g := (mkF m 190 #[.val (.int a), .val (.long d), .second, .val (.int (2 : Int32)), .val (.int b4), .val (.int ps), .unset] [(.int (3 : Int32)), (.long d), (.int (3 : Int32)), (.ref nb202), (.ref nb202)])) rfl (by rw [hml]; rfl) (argsL := [(.long d), (.int (3 : Int32))]) (rest := [(.int (3 : Int32)), (.ref nb202), (.ref nb202)]) (lenOf pd_1 rfl) rfl (by show 2 * 0 + _ ≤ _; exact Nat.le_of_eq rfl) (hb hby d2_190) rfl e208 (by decide) (by decide) ?_
      rintro v209 T209 L209 X209 ⟨c209, rfl, Nq209, hh209, lc209⟩
      have N209 := Fr.app N208 Nq209
      show own_Go p e below _ T209 (mkF m 193 #[.val (.int a), .val (.long d), .second, .val (.int (2 : Int32)), .val (.int b4), .val (.int ps), .unset] [(.int c209), (.int (3 : Int32)), (.ref nb202), (.ref nb202)])
      obtain ⟨cl210, Ar210, q210, S210, N210', H210, G210⟩ := id V208
      have hin210 : ¬ ((3 : Int32) < 0 ∨ cl210.slots.size ≤ ((3 : Int32)).toNatClampNeg) := inb_of S210 ⟨by decide, by decide⟩
      obtain ⟨T210, h210, X210, e210, W210, st210⟩ := stC X209 hx hZ hh209 Ar210 (j := (3 : Int32)) hin210 (g := (mkF m 193 #[.val (.int a), .val (.long d), .second, .val (.int (2 : Int32)), .val (.int b4), .val (.int ps), .unset] [(.int c209), (.int (3 : Int32)), (.ref nb202), (.ref nb202)])) rfl rfl (hb hby d2_193)
      have V210 : Arv Z h210 nb202 k202 .char (4 : Int32) [(.int (nar .char c203)), (.int (nar .char c205)), (.int (nar .char c207)), (.int (nar .char c209))] (.int (0 : Int32)) := Arv.set Ar210 q210 S210 N210' H210 G210 (fits_nar_char _) W210 3 rfl (Nat.le_of_ble_eq_true rfl)
      refine own_st st210 ?_
      have N210 := Fr.snoc X210 N209 g_nb202
      have K210 : Keep h0 h210 [] := K208.wr W210 (Or.inr sz_nb202)
      show own_Go p e below _ T210 (mkF m 194 #[.val (.int a), .val (.long d), .second, .val (.int (2 : Int32)), .val (.int b4), .val (.int ps), .unset] [(.ref nb202)])
      refine own_st (fun t_ k_ => XS.astore X210.here hx rfl (hb hby d2_194) rfl rfl (l' := #[.val (.int a), .val (.long d), .second, .val (.int (2 : Int32)), .val (.int b4), .val (.int ps), .val (.ref nb202)]) rfl k_) ?_
      show own_Go p e below _ T210 (mkF m 196 #[.val (.int a), .val (.long d), .second, .val (.int (2 : Int32)), .val (.int b4), .val (.int ps), .val (.ref nb202)] [])
      obtain ⟨T211, h211, X211, e211, E211, A211, D211, cel211, st211⟩ := newO X210 hx hZ hown (hw _ (List.mem_of_getElem? (i := 5) rfl)) (hw _ (List.mem_of_getElem? (i := 6) rfl)) (hw _ (List.mem_of_getElem? (i := 7) rfl)) e210 (g := (mkF m 196 #[.val (.int a), .val (.long d), .second, .val (.int (2 : Int32)), .val (.int b4), .val (.int ps), .val (.ref nb202)] [])) rfl (hb hby d2_196) (by decide) (by decide)
      obtain ⟨nb211, g211⟩ : ∃ z, z = h210.size := ⟨_, rfl⟩
      rw [← g211] at A211 D211 cel211 st211
      refine own_st st211 ?_
      have g_nb211 : n0 ≤ nb211 := Nat.le_trans (Nat.le_trans Z0 K210.1) (Nat.le_of_eq g211.symm)
      have K211 : Keep h0 h211 [] := K210.ext E211
      have sz_nb211 : h0.size ≤ nb211 := Nat.le_trans K210.1 (Nat.le_of_eq g211.symm)
      have F211_coder : Fld Z h211 nb211 "java/lang/String" "coder" "B" (.int (0 : Int32)) := D211 (Or.inr (hw _ (List.mem_of_getElem? (i := 31) rfl))) (ty := .byte) (by decide)
      have F211_value : Fld Z h211 nb211 "java/lang/String" "value" "[B" .null := D211 (Or.inr (hw _ (List.mem_of_getElem? (i := 33) rfl))) (ty := (.array .byte)) (by decide)
      show own_Go p e below _ T211 (mkF m 199 #[.val (.int a), .val (.long d), .second, .val (.int (2 : Int32)), .val (.int b4), .val (.int ps), .val (.ref nb202)] [(.ref nb211)])
      refine own_st (fun t_ k_ => XS.dup X211.here hx rfl (hb hby d2_199) rfl rfl k_) ?_
      show own_Go p e below _ T211 (mkF m 200 #[.val (.int a), .val (.long d), .second, .val (.int (2 : Int32)), .val (.int b4), .val (.int ps), .val (.ref nb202)] [(.ref nb211), (.ref nb211)])
      refine own_st (fun t_ k_ => XS.aload X211.here hx rfl (hb hby d2_200) rfl rfl k_) ?_
      show own_Go p e below _ T211 (mkF m 202 #[.val (.int a), .val (.long d), .second, .val (.int (2 : Int32)), .val (.int b4), .val (.int ps), .val (.ref nb202)] [(.ref nb202), (.ref nb211), (.ref nb211)])
      have hp212 : ∀ c ∈ ([(nar .char c203), (nar .char c205), (nar .char c207), (nar .char c209)] : List Int32), ¬ c < 0 ∧ ¬ (255 : Int32) < c := (own_lcons (own_LLN lc203) (own_lcons (own_LLN lc205) (own_lcons (own_LLN lc207) (own_lcons (own_LLN lc209) own_lnil))))
      have f213 := (V210.ext E211)
      have f214 := (O0.ext E202)
      have f215 := (f214.wr W204 g_nb202)
      have f216 := (f215.wr W206 g_nb202)
      have f217 := (f216.wr W208 g_nb202)
      have f218 := (f217.wr W210 g_nb202)
      have f219 := (f218.ext E211)
      refine own_callN X211 hx (y := (⟨"java/lang/String", "<init>", "([C)V"⟩ : MethodName)) rfl hown (mvT hZ (hw _ (List.mem_of_getElem? (i := 8) rfl))) (mvT hZ (hw _ (List.mem_of_getElem? (i := 9) rfl))) (mvT hZ (hw _ (List.mem_of_getElem? (i := 10) rfl))) (by decide) (StrChars.Road.backV (W := 1) hZ (own_words hw) (kI := 4) (hw _ (List.mem_of_getElem? (i := 6) rfl)) (cs := ([(nar .char c203), (nar .char c205), (nar .char c207), (nar .char c209)] : List Int32)) (bs := ([(nar .char c203), (nar .char c205), (nar .char c207), (nar .char c209)] : List Int32).map (fun c => c.toInt8.toInt32)) (n := 4) g_nb211 (Nat.le_trans Z0 K211.1) A211 F211_value F211_coder f213 (Sta.ext f219.2 SC) hCS rfl rfl (by decide) (by decide) hp212 rfl (by decide) (by decide)) (a := nb211) (g := (mkF m 202 #[.val (.int a), .val (.long d), .second, .val (.int (2 : Int32)), .val (.int b4), .val (.int ps), .val (.ref nb202)] [(.ref nb202), (.ref nb211), (.ref nb211)])) rfl (by rw [hml]; rfl) (argsL := [(.ref nb202)]) (rest := [(.ref nb211)]) (lenOf pd_0 rfl) rfl (by show 2 * 0 + _ ≤ _; exact Nat.le_of_eq rfl) (hb hby d2_202) rfl e211 (by decide) (by decide) ?_
      rintro v212 T212 L212 X212 ⟨rfl, Nq212, Kq212, Eq212, Cq212, t212, kb212, g_t212, gt212, nt212, Vq212, Aq212⟩
      have sz_t212 : h0.size ≤ t212 := Nat.le_trans K211.1 gt212
      have N212 := Fr.app N210 Nq212
      have K212 : Keep h0 T212.heap [] := K211.trans Kq212 (allS (Or.inr sz_nb211) all0)
      show own_Go p e below _ T212 (mkF m 205 #[.val (.int a), .val (.long d), .second, .val (.int (2 : Int32)), .val (.int b4), .val (.int ps), .val (.ref nb202)] [(.ref nb211)])
      refine own_retA X212 hx hlk Bd.returns rfl rfl (hb hby d2_205) ?_ (by decide) (by decide)
      show QNa Z h0 n0 _ T212.heap _
      exact ⟨([(nar .char c203), (nar .char c205), (nar .char c207), (nar .char c209)] : List Int32), Nat.le_of_ble_eq_true rfl, nb211, t212, kb212, rfl, N212, K212, sz_nb211, g_nb211, nt212, Eq212, Cq212, Vq212, Aq212, hp212⟩
    · show own_Go p e below _ s₁ (mkF m 28 #[.val (.int a), .val (.long d), .second, .val (.int (3 : Int32)), .val (.int b4), .val (.int ps), .unset] [(.int (3 : Int32))])
      refine own_st (fun t_ k_ => XS.ifNo X0.here hx rfl (hb hby d2_28) rfl (by decide) k_) ?_
      show own_Go p e below _ s₁ (mkF m 31 #[.val (.int a), .val (.long d), .second, .val (.int (3 : Int32)), .val (.int b4), .val (.int ps), .unset] [])
      refine own_st (fun t_ k_ => XS.iloadN X0.here hx rfl (hb hby d2_31) rfl k_) ?_
      show own_Go p e below _ s₁ (mkF m 32 #[.val (.int a), .val (.long d), .second, .val (.int (3 : Int32)), .val (.int b4), .val (.int ps), .unset] [(.int (3 : Int32))])
      refine own_st (fun t_ k_ => XS.iconst X0.here hx rfl (hb hby d2_32) k_) ?_
      show own_Go p e below _ s₁ (mkF m 33 #[.val (.int a), .val (.long d), .second, .val (.int (3 : Int32)), .val (.int b4), .val (.int ps), .unset] [(.int (1 : Int32)), (.int (3 : Int32))])
      refine own_st (fun t_ k_ => XS.icmpYes X0.here hx rfl (pc0 := 33) (pc' := 154) rfl (hb hby d2_33) rfl (by decide) (by decide) (by decide) k_) ?_
      show own_Go p e below _ s₁ (mkF m 154 #[.val (.int a), .val (.long d), .second, .val (.int (3 : Int32)), .val (.int b4), .val (.int ps), .unset] [])
      refine own_st (fun t_ k_ => XS.iloadN X0.here hx rfl (hb hby d2_154) rfl k_) ?_
      show own_Go p e below _ s₁ (mkF m 155 #[.val (.int a), .val (.long d), .second, .val (.int (3 : Int32)), .val (.int b4), .val (.int ps), .unset] [(.int (3 : Int32))])
      refine own_st (fun t_ k_ => XS.iconst X0.here hx rfl (hb hby d2_155) k_) ?_
      show own_Go p e below _ s₁ (mkF m 156 #[.val (.int a), .val (.long d), .second, .val (.int (3 : Int32)), .val (.int b4), .val (.int ps), .unset] [(.int (2 : Int32)), (.int (3 : Int32))])
      refine own_st (fun t_ k_ => XS.icmpYes X0.here hx rfl (pc0 := 156) (pc' := 206) rfl (hb hby d2_156) rfl (by decide) (by decide) (by decide) k_) ?_
      show own_Go p e below _ s₁ (mkF m 206 #[.val (.int a), .val (.long d), .second, .val (.int (3 : Int32)), .val (.int b4), .val (.int ps), .unset] [])
      refine own_st (fun t_ k_ => XS.bipush X0.here hx rfl (hb hby d2_206) k_) ?_
      show own_Go p e below _ s₁ (mkF m 208 #[.val (.int a), .val (.long d), .second, .val (.int (3 : Int32)), .val (.int b4), .val (.int ps), .unset] [(.int (6 : Int32))])
      obtain ⟨T220, h220, k220, X220, e220, E220, A220, st220⟩ := newP X0 hx hZ (hw _ (List.mem_of_getElem? (i := 4) rfl)) e0 (g := (mkF m 208 #[.val (.int a), .val (.long d), .second, .val (.int (3 : Int32)), .val (.int b4), .val (.int ps), .unset] [(.int (6 : Int32))])) rfl (hb hby d2_208) rfl (by decide) (cap := 6) (by decide) (by decide) (by decide) (by decide)
      obtain ⟨nb220, g220⟩ : ∃ z, z = h0.size := ⟨_, rfl⟩
      rw [← g220] at A220 st220
      refine own_st st220 ?_
      have g_nb220 : n0 ≤ nb220 := Nat.le_trans (Nat.le_trans Z0 (Keep.refl h0 []).1) (Nat.le_of_eq g220.symm)
      have K220 : Keep h0 h220 [] := (Keep.refl h0 []).ext E220
      have sz_nb220 : h0.size ≤ nb220 := Nat.le_trans (Keep.refl h0 []).1 (Nat.le_of_eq g220.symm)
      have V220 : Arv Z h220 nb220 k220 .char (6 : Int32) [(.int (0 : Int32)), (.int (0 : Int32)), (.int (0 : Int32)), (.int (0 : Int32)), (.int (0 : Int32)), (.int (0 : Int32))] (.int (0 : Int32)) := (Arv.new A220 (by decide)).pad (pad_rep [] (.int (0 : Int32)) 6)
      show own_Go p e below _ T220 (mkF m 210 #[.val (.int a), .val (.long d), .second, .val (.int (3 : Int32)), .val (.int b4), .val (.int ps), .unset] [(.ref nb220)])
      refine own_st (fun t_ k_ => XS.dup X220.here hx rfl (hb hby d2_210) rfl rfl k_) ?_
      show own_Go p e below _ T220 (mkF m 211 #[.val (.int a), .val (.long d), .second, .val (.int (3 : Int32)), .val (.int b4), .val (.int ps), .unset] [(.ref nb220), (.ref nb220)])
      refine own_st (fun t_ k_ => XS.iconst X220.here hx rfl (hb hby d2_211) k_) ?_
      show own_Go p e below _ T220 (mkF m 212 #[.val (.int a), .val (.long d), .second, .val (.int (3 : Int32)), .val (.int b4), .val (.int ps), .unset] [(.int (0 : Int32)), (.ref nb220), (.ref nb220)])
      refine own_st (fun t_ k_ => XS.lloadN X220.here hx rfl (hb hby d2_212) rfl k_) ?_
      show own_Go p e below _ T220 (mkF m 213 #[.val (.int a), .val (.long d), .second, .val (.int (3 : Int32)), .val (.int b4), .val (.int ps), .unset] [(.long d), (.int (0 : Int32)), (.ref nb220), (.ref nb220)])
      refine own_st (fun t_ k_ => XS.iconst X220.here hx rfl (hb hby d2_213) k_) ?_
      show own_Go p e below _ T220 (mkF m 214 #[.val (.int a), .val (.long d), .second, .val (.int (3 : Int32)), .val (.int b4), .val (.int ps), .unset] [(.int (0 : Int32)), (.long d), (.int (0 : Int32)), (.ref nb220), (.ref nb220)])
      refine own_callS X220 hx (y := (⟨"com/example/lean_pubsub/leanpubsub/codec/ProtocolVersionFindPinLaw", "pick", "(JI)C"⟩ : MethodName)) hown (mvT hZ (hw _ (List.mem_of_getElem? (i := 75) rfl))) (mvT hZ (hw _ (List.mem_of_getElem? (i := 76) rfl))) (mvT hZ (hw _ (List.mem_of_getElem? (i := 2) rfl))) (mvT hZ (hw _ (List.mem_of_getElem? (i := 77) rfl))) (by decide) (backOf (W := 3) (rmPK l Z a0 hw [] d (0 : Int32) h220 n0 (Nat.le_trans Z0 K220.1)) hZ (hw _ (List.mem_of_getElem? (i := 77) rfl)) (hw _ (List.mem_of_getElem? (i := 2) rfl)) (by decide) (by decide)) (g := (mkF m 214 #[.val (.int a), .val (.long d), .second, .val (.int (3 : Int32)), .val (.int b4), .val (.int ps), .unset] [(.int (0 : Int32)), (.long d), (.int (0 : Int32)), (.ref nb220), (.ref nb220)])) rfl (by rw [hml]; rfl) (argsL := [(.long d), (.int (0 : Int32))]) (rest := [(.int (0 : Int32)), (.ref nb220), (.ref nb220)]) (lenOf pd_1 rfl) rfl (by show 2 * 0 + _ ≤ _; exact Nat.le_of_eq rfl) (hb hby d2_214) rfl e220 (by decide) (by decide) ?_
      rintro v221 T221 L221 X221 ⟨c221, rfl, Nq221, hh221, lc221⟩
      have N221 := Fr.app N0 Nq221
      show own_Go p e below _ T221 (mkF m 217 #[.val (.int a), .val (.long d), .second, .val (.int (3 : Int32)), .val (.int b4), .val (.int ps), .unset] [(.int c221), (.int (0 : Int32)), (.ref nb220), (.ref nb220)])
      obtain ⟨cl222, Ar222, q222, S222, N222', H222, G222⟩ := id V220
      have hin222 : ¬ ((0 : Int32) < 0 ∨ cl222.slots.size ≤ ((0 : Int32)).toNatClampNeg) := inb_of S222 ⟨by decide, by decide⟩
      obtain ⟨T222, h222, X222, e222, W222, st222⟩ := stC X221 hx hZ hh221 Ar222 (j := (0 : Int32)) hin222 (g := (mkF m 217 #[.val (.int a), .val (.long d), .second, .val (.int (3 : Int32)), .val (.int b4), .val (.int ps), .unset] [(.int c221), (.int (0 : Int32)), (.ref nb220), (.ref nb220)])) rfl rfl (hb hby d2_217)
      have V222 : Arv Z h222 nb220 k220 .char (6 : Int32) [(.int (nar .char c221)), (.int (0 : Int32)), (.int (0 : Int32)), (.int (0 : Int32)), (.int (0 : Int32)), (.int (0 : Int32))] (.int (0 : Int32)) := Arv.set Ar222 q222 S222 N222' H222 G222 (fits_nar_char _) W222 0 rfl (Nat.le_of_ble_eq_true rfl)
      refine own_st st222 ?_
      have N222 := Fr.snoc X222 N221 g_nb220
      have K222 : Keep h0 h222 [] := K220.wr W222 (Or.inr sz_nb220)
      show own_Go p e below _ T222 (mkF m 218 #[.val (.int a), .val (.long d), .second, .val (.int (3 : Int32)), .val (.int b4), .val (.int ps), .unset] [(.ref nb220)])
      refine own_st (fun t_ k_ => XS.dup X222.here hx rfl (hb hby d2_218) rfl rfl k_) ?_
      show own_Go p e below _ T222 (mkF m 219 #[.val (.int a), .val (.long d), .second, .val (.int (3 : Int32)), .val (.int b4), .val (.int ps), .unset] [(.ref nb220), (.ref nb220)])
      refine own_st (fun t_ k_ => XS.iconst X222.here hx rfl (hb hby d2_219) k_) ?_
      show own_Go p e below _ T222 (mkF m 220 #[.val (.int a), .val (.long d), .second, .val (.int (3 : Int32)), .val (.int b4), .val (.int ps), .unset] [(.int (1 : Int32)), (.ref nb220), (.ref nb220)])
      refine own_st (fun t_ k_ => XS.lloadN X222.here hx rfl (hb hby d2_220) rfl k_) ?_
      show own_Go p e below _ T222 (mkF m 221 #[.val (.int a), .val (.long d), .second, .val (.int (3 : Int32)), .val (.int b4), .val (.int ps), .unset] [(.long d), (.int (1 : Int32)), (.ref nb220), (.ref nb220)])
      refine own_st (fun t_ k_ => XS.iconst X222.here hx rfl (hb hby d2_221) k_) ?_
      show own_Go p e below _ T222 (mkF m 222 #[.val (.int a), .val (.long d), .second, .val (.int (3 : Int32)), .val (.int b4), .val (.int ps), .unset] [(.int (1 : Int32)), (.long d), (.int (1 : Int32)), (.ref nb220), (.ref nb220)])
      refine own_callS X222 hx (y := (⟨"com/example/lean_pubsub/leanpubsub/codec/ProtocolVersionFindPinLaw", "pick", "(JI)C"⟩ : MethodName)) hown (mvT hZ (hw _ (List.mem_of_getElem? (i := 75) rfl))) (mvT hZ (hw _ (List.mem_of_getElem? (i := 76) rfl))) (mvT hZ (hw _ (List.mem_of_getElem? (i := 2) rfl))) (mvT hZ (hw _ (List.mem_of_getElem? (i := 77) rfl))) (by decide) (backOf (W := 3) (rmPK l Z a0 hw [] d (1 : Int32) h222 n0 (Nat.le_trans Z0 K222.1)) hZ (hw _ (List.mem_of_getElem? (i := 77) rfl)) (hw _ (List.mem_of_getElem? (i := 2) rfl)) (by decide) (by decide)) (g := (mkF m 222 #[.val (.int a), .val (.long d), .second, .val (.int (3 : Int32)), .val (.int b4), .val (.int ps), .unset] [(.int (1 : Int32)), (.long d), (.int (1 : Int32)), (.ref nb220), (.ref nb220)])) rfl (by rw [hml]; rfl) (argsL := [(.long d), (.int (1 : Int32))]) (rest := [(.int (1 : Int32)), (.ref nb220), (.ref nb220)]) (lenOf pd_1 rfl) rfl (by show 2 * 0 + _ ≤ _; exact Nat.le_of_eq rfl) (hb hby d2_222) rfl e222 (by decide) (by decide) ?_
      rintro v223 T223 L223 X223 ⟨c223, rfl, Nq223, hh223, lc223⟩
      have N223 := Fr.app N222 Nq223
      show own_Go p e below _ T223 (mkF m 225 #[.val (.int a), .val (.long d), .second, .val (.int (3 : Int32)), .val (.int b4), .val (.int ps), .unset] [(.int c223), (.int (1 : Int32)), (.ref nb220), (.ref nb220)])
      obtain ⟨cl224, Ar224, q224, S224, N224', H224, G224⟩ := id V222
      have hin224 : ¬ ((1 : Int32) < 0 ∨ cl224.slots.size ≤ ((1 : Int32)).toNatClampNeg) := inb_of S224 ⟨by decide, by decide⟩
      obtain ⟨T224, h224, X224, e224, W224, st224⟩ := stC X223 hx hZ hh223 Ar224 (j := (1 : Int32)) hin224 (g := (mkF m 225 #[.val (.int a), .val (.long d), .second, .val (.int (3 : Int32)), .val (.int b4), .val (.int ps), .unset] [(.int c223), (.int (1 : Int32)), (.ref nb220), (.ref nb220)])) rfl rfl (hb hby d2_225)
      have V224 : Arv Z h224 nb220 k220 .char (6 : Int32) [(.int (nar .char c221)), (.int (nar .char c223)), (.int (0 : Int32)), (.int (0 : Int32)), (.int (0 : Int32)), (.int (0 : Int32))] (.int (0 : Int32)) := Arv.set Ar224 q224 S224 N224' H224 G224 (fits_nar_char _) W224 1 rfl (Nat.le_of_ble_eq_true rfl)
      refine own_st st224 ?_
      have N224 := Fr.snoc X224 N223 g_nb220
      have K224 : Keep h0 h224 [] := K222.wr W224 (Or.inr sz_nb220)
      show own_Go p e below _ T224 (mkF m 226 #[.val (.int a), .val (.long d), .second, .val (.int (3 : Int32)), .val (.int b4), .val (.int ps), .unset] [(.ref nb220)])
      refine own_st (fun t_ k_ => XS.dup X224.here hx rfl (hb hby d2_226) rfl rfl k_) ?_
      show own_Go p e below _ T224 (mkF m 227 #[.val (.int a), .val (.long d), .second, .val (.int (3 : Int32)), .val (.int b4), .val (.int ps), .unset] [(.ref nb220), (.ref nb220)])
      refine own_st (fun t_ k_ => XS.iconst X224.here hx rfl (hb hby d2_227) k_) ?_
      show own_Go p e below _ T224 (mkF m 228 #[.val (.int a), .val (.long d), .second, .val (.int (3 : Int32)), .val (.int b4), .val (.int ps), .unset] [(.int (2 : Int32)), (.ref nb220), (.ref nb220)])
      refine own_st (fun t_ k_ => XS.lloadN X224.here hx rfl (hb hby d2_228) rfl k_) ?_
      show own_Go p e below _ T224 (mkF m 229 #[.val (.int a), .val (.long d), .second, .val (.int (3 : Int32)), .val (.int b4), .val (.int ps), .unset] [(.long d), (.int (2 : Int32)), (.ref nb220), (.ref nb220)])
      refine own_st (fun t_ k_ => XS.iconst X224.here hx rfl (hb hby d2_229) k_) ?_
      show own_Go p e below _ T224 (mkF m 230 #[.val (.int a), .val (.long d), .second, .val (.int (3 : Int32)), .val (.int b4), .val (.int ps), .unset] [(.int (2 : Int32)), (.long d), (.int (2 : Int32)), (.ref nb220), (.ref nb220)])
      refine own_callS X224 hx (y := (⟨"com/example/lean_pubsub/leanpubsub/codec/ProtocolVersionFindPinLaw", "pick", "(JI)C"⟩ : MethodName)) hown (mvT hZ (hw _ (List.mem_of_getElem? (i := 75) rfl))) (mvT hZ (hw _ (List.mem_of_getElem? (i := 76) rfl))) (mvT hZ (hw _ (List.mem_of_getElem? (i := 2) rfl))) (mvT hZ (hw _ (List.mem_of_getElem? (i := 77) rfl))) (by decide) (backOf (W := 3) (rmPK l Z a0 hw [] d (2 : Int32) h224 n0 (Nat.le_trans Z0 K224.1)) hZ (hw _ (List.mem_of_getElem? (i := 77) rfl)) (hw _ (List.mem_of_getElem? (i := 2) rfl)) (by decide) (by decide)) (g := (mkF m 230 #[.val (.int a), .val (.long d), .second, .val (.int (3 : Int32)), .val (.int b4), .val (.int ps), .unset] [(.int (2 : Int32)), (.long d), (.int (2 : Int32)), (.ref nb220), (.ref nb220)])) rfl (by rw [hml]; rfl) (argsL := [(.long d), (.int (2 : Int32))]) (rest := [(.int (2 : Int32)), (.ref nb220), (.ref nb220)]) (lenOf pd_1 rfl) rfl (by show 2 * 0 + _ ≤ _; exact Nat.le_of_eq rfl) (hb hby d2_230) rfl e224 (by decide) (by decide) ?_
      rintro v225 T225 L225 X225 ⟨c225, rfl, Nq225, hh225, lc225⟩
      have N225 := Fr.app N224 Nq225
      show own_Go p e below _ T225 (mkF m 233 #[.val (.int a), .val (.long d), .second, .val (.int (3 : Int32)), .val (.int b4), .val (.int ps), .unset] [(.int c225), (.int (2 : Int32)), (.ref nb220), (.ref nb220)])
      obtain ⟨cl226, Ar226, q226, S226, N226', H226, G226⟩ := id V224
      have hin226 : ¬ ((2 : Int32) < 0 ∨ cl226.slots.size ≤ ((2 : Int32)).toNatClampNeg) := inb_of S226 ⟨by decide, by decide⟩
      obtain ⟨T226, h226, X226, e226, W226, st226⟩ := stC X225 hx hZ hh225 Ar226 (j := (2 : Int32)) hin226 (g := (mkF m 233 #[.val (.int a), .val (.long d), .second, .val (.int (3 : Int32)), .val (.int b4), .val (.int ps), .unset] [(.int c225), (.int (2 : Int32)), (.ref nb220), (.ref nb220)])) rfl rfl (hb hby d2_233)
      have V226 : Arv Z h226 nb220 k220 .char (6 : Int32) [(.int (nar .char c221)), (.int (nar .char c223)), (.int (nar .char c225)), (.int (0 : Int32)), (.int (0 : Int32)), (.int (0 : Int32))] (.int (0 : Int32)) := Arv.set Ar226 q226 S226 N226' H226 G226 (fits_nar_char _) W226 2 rfl (Nat.le_of_ble_eq_true rfl)
      refine own_st st226 ?_
      have N226 := Fr.snoc X226 N225 g_nb220
      have K226 : Keep h0 h226 [] := K224.wr W226 (Or.inr sz_nb220)
      show own_Go p e below _ T226 (mkF m 234 #[.val (.int a), .val (.long d), .second, .val (.int (3 : Int32)), .val (.int b4), .val (.int ps), .unset] [(.ref nb220)])
      refine own_st (fun t_ k_ => XS.dup X226.here hx rfl (hb hby d2_234) rfl rfl k_) ?_
      show own_Go p e below _ T226 (mkF m 235 #[.val (.int a), .val (.long d), .second, .val (.int (3 : Int32)), .val (.int b4), .val (.int ps), .unset] [(.ref nb220), (.ref nb220)])
      refine own_st (fun t_ k_ => XS.iconst X226.here hx rfl (hb hby d2_235) k_) ?_
      show own_Go p e below _ T226 (mkF m 236 #[.val (.int a), .val (.long d), .second, .val (.int (3 : Int32)), .val (.int b4), .val (.int ps), .unset] [(.int (3 : Int32)), (.ref nb220), (.ref nb220)])
      refine own_st (fun t_ k_ => XS.lloadN X226.here hx rfl (hb hby d2_236) rfl k_) ?_
      show own_Go p e below _ T226 (mkF m 237 #[.val (.int a), .val (.long d), .second, .val (.int (3 : Int32)), .val (.int b4), .val (.int ps), .unset] [(.long d), (.int (3 : Int32)), (.ref nb220), (.ref nb220)])
      refine own_st (fun t_ k_ => XS.iconst X226.here hx rfl (hb hby d2_237) k_) ?_
      show own_Go p e below _ T226 (mkF m 238 #[.val (.int a), .val (.long d), .second, .val (.int (3 : Int32)), .val (.int b4), .val (.int ps), .unset] [(.int (3 : Int32)), (.long d), (.int (3 : Int32)), (.ref nb220), (.ref nb220)])
      refine own_callS X226 hx (y := (⟨"com/example/lean_pubsub/leanpubsub/codec/ProtocolVersionFindPinLaw", "pick", "(JI)C"⟩ : MethodName)) hown (mvT hZ (hw _ (List.mem_of_getElem? (i := 75) rfl))) (mvT hZ (hw _ (List.mem_of_getElem? (i := 76) rfl))) (mvT hZ (hw _ (List.mem_of_getElem? (i := 2) rfl))) (mvT hZ (hw _ (List.mem_of_getElem? (i := 77) rfl))) (by decide) (backOf (W := 3) (rmPK l Z a0 hw [] d (3 : Int32) h226 n0 (Nat.le_trans Z0 K226.1)) hZ (hw _ (List.mem_of_getElem? (i := 77) rfl)) (hw _ (List.mem_of_getElem? (i := 2) rfl)) (by decide) (by decide)) (g := (mkF m 238 #[.val (.int a), .val (.long d), .second, .val (.int (3 : Int32)), .val (.int b4), .val (.int ps), .unset] [(.int (3 : Int32)), (.long d), (.int (3 : Int32)), (.ref nb220), (.ref nb220)])) rfl (by rw [hml]; rfl) (argsL := [(.long d), (.int (3 : Int32))]) (rest := [(.int (3 : Int32)), (.ref nb220), (.ref nb220)]) (lenOf pd_1 rfl) rfl (by show 2 * 0 + _ ≤ _; exact Nat.le_of_eq rfl) (hb hby d2_238) rfl e226 (by decide) (by decide) ?_
      rintro v227 T227 L227 X227 ⟨c227, rfl, Nq227, hh227, lc227⟩
      have N227 := Fr.app N226 Nq227
      show own_Go p e below _ T227 (mkF m 241 #[.val (.int a), .val (.long d), .second, .val (.int (3 : Int32)), .val (.int b4), .val (.int ps), .unset] [(.int c227), (.int (3 : Int32)), (.ref nb220), (.ref nb220)])
      obtain ⟨cl228, Ar228, q228, S228, N228', H228, G228⟩ := id V226
      have hin228 : ¬ ((3 : Int32) < 0 ∨ cl228.slots.size ≤ ((3 : Int32)).toNatClampNeg) := inb_of S228 ⟨by decide, by decide⟩
      obtain ⟨T228, h228, X228, e228, W228, st228⟩ := stC X227 hx hZ hh227 Ar228 (j := (3 : Int32)) hin228 (g := (mkF m 241 #[.val (.int a), .val (.long d), .second, .val (.int (3 : Int32)), .val (.int b4), .val (.int ps), .unset] [(.int c227), (.int (3 : Int32)), (.ref nb220), (.ref nb220)])) rfl rfl (hb hby d2_241)
      have V228 : Arv Z h228 nb220 k220 .char (6 : Int32) [(.int (nar .char c221)), (.int (nar .char c223)), (.int (nar .char c225)), (.int (nar .char c227)), (.int (0 : Int32)), (.int (0 : Int32))] (.int (0 : Int32)) := Arv.set Ar228 q228 S228 N228' H228 G228 (fits_nar_char _) W228 3 rfl (Nat.le_of_ble_eq_true rfl)
      refine own_st st228 ?_
      have N228 := Fr.snoc X228 N227 g_nb220
      have K228 : Keep h0 h228 [] := K226.wr W228 (Or.inr sz_nb220)
      show own_Go p e below _ T228 (mkF m 242 #[.val (.int a), .val (.long d), .second, .val (.int (3 : Int32)), .val (.int b4), .val (.int ps), .unset] [(.ref nb220)])
      refine own_st (fun t_ k_ => XS.dup X228.here hx rfl (hb hby d2_242) rfl rfl k_) ?_
      show own_Go p e below _ T228 (mkF m 243 #[.val (.int a), .val (.long d), .second, .val (.int (3 : Int32)), .val (.int b4), .val (.int ps), .unset] [(.ref nb220), (.ref nb220)])
      refine own_st (fun t_ k_ => XS.iconst X228.here hx rfl (hb hby d2_243) k_) ?_
      show own_Go p e below _ T228 (mkF m 244 #[.val (.int a), .val (.long d), .second, .val (.int (3 : Int32)), .val (.int b4), .val (.int ps), .unset] [(.int (4 : Int32)), (.ref nb220), (.ref nb220)])
      refine own_st (fun t_ k_ => XS.lloadN X228.here hx rfl (hb hby d2_244) rfl k_) ?_
      show own_Go p e below _ T228 (mkF m 245 #[.val (.int a), .val (.long d), .second, .val (.int (3 : Int32)), .val (.int b4), .val (.int ps), .unset] [(.long d), (.int (4 : Int32)), (.ref nb220), (.ref nb220)])
      refine own_st (fun t_ k_ => XS.iconst X228.here hx rfl (hb hby d2_245) k_) ?_
      show own_Go p e below _ T228 (mkF m 246 #[.val (.int a), .val (.long d), .second, .val (.int (3 : Int32)), .val (.int b4), .val (.int ps), .unset] [(.int (4 : Int32)), (.long d), (.int (4 : Int32)), (.ref nb220), (.ref nb220)])
      refine own_callS X228 hx (y := (⟨"com/example/lean_pubsub/leanpubsub/codec/ProtocolVersionFindPinLaw", "pick", "(JI)C"⟩ : MethodName)) hown (mvT hZ (hw _ (List.mem_of_getElem? (i := 75) rfl))) (mvT hZ (hw _ (List.mem_of_getElem? (i := 76) rfl))) (mvT hZ (hw _ (List.mem_of_getElem? (i := 2) rfl))) (mvT hZ (hw _ (List.mem_of_getElem? (i := 77) rfl))) (by decide) (backOf (W := 3) (rmPK l Z a0 hw [] d (4 : Int32) h228 n0 (Nat.le_trans Z0 K228.1)) hZ (hw _ (List.mem_of_getElem? (i := 77) rfl)) (hw _ (List.mem_of_getElem? (i := 2) rfl)) (by decide) (by decide)) (g := (mkF m 246 #[.val (.int a), .val (.long d), .second, .val (.int (3 : Int32)), .val (.int b4), .val (.int ps), .unset] [(.int (4 : Int32)), (.long d), (.int (4 : Int32)), (.ref nb220), (.ref nb220)])) rfl (by rw [hml]; rfl) (argsL := [(.long d), (.int (4 : Int32))]) (rest := [(.int (4 : Int32)), (.ref nb220), (.ref nb220)]) (lenOf pd_1 rfl) rfl (by show 2 * 0 + _ ≤ _; exact Nat.le_of_eq rfl) (hb hby d2_246) rfl e228 (by decide) (by decide) ?_
      rintro v229 T229 L229 X229 ⟨c229, rfl, Nq229, hh229, lc229⟩
      have N229 := Fr.app N228 Nq229
      show own_Go p e below _ T229 (mkF m 249 #[.val (.int a), .val (.long d), .second, .val (.int (3 : Int32)), .val (.int b4), .val (.int ps), .unset] [(.int c229), (.int (4 : Int32)), (.ref nb220), (.ref nb220)])
      obtain ⟨cl230, Ar230, q230, S230, N230', H230, G230⟩ := id V228
      have hin230 : ¬ ((4 : Int32) < 0 ∨ cl230.slots.size ≤ ((4 : Int32)).toNatClampNeg) := inb_of S230 ⟨by decide, by decide⟩
      obtain ⟨T230, h230, X230, e230, W230, st230⟩ := stC X229 hx hZ hh229 Ar230 (j := (4 : Int32)) hin230 (g := (mkF m 249 #[.val (.int a), .val (.long d), .second, .val (.int (3 : Int32)), .val (.int b4), .val (.int ps), .unset] [(.int c229), (.int (4 : Int32)), (.ref nb220), (.ref nb220)])) rfl rfl (hb hby d2_249)
      have V230 : Arv Z h230 nb220 k220 .char (6 : Int32) [(.int (nar .char c221)), (.int (nar .char c223)), (.int (nar .char c225)), (.int (nar .char c227)), (.int (nar .char c229)), (.int (0 : Int32))] (.int (0 : Int32)) := Arv.set Ar230 q230 S230 N230' H230 G230 (fits_nar_char _) W230 4 rfl (Nat.le_of_ble_eq_true rfl)
      refine own_st st230 ?_
      have N230 := Fr.snoc X230 N229 g_nb220
      have K230 : Keep h0 h230 [] := K228.wr W230 (Or.inr sz_nb220)
      show own_Go p e below _ T230 (mkF m 250 #[.val (.int a), .val (.long d), .second, .val (.int (3 : Int32)), .val (.int b4), .val (.int ps), .unset] [(.ref nb220)])
      refine own_st (fun t_ k_ => XS.dup X230.here hx rfl (hb hby d2_250) rfl rfl k_) ?_
      show own_Go p e below _ T230 (mkF m 251 #[.val (.int a), .val (.long d), .second, .val (.int (3 : Int32)), .val (.int b4), .val (.int ps), .unset] [(.ref nb220), (.ref nb220)])
      refine own_st (fun t_ k_ => XS.iconst X230.here hx rfl (hb hby d2_251) k_) ?_
      show own_Go p e below _ T230 (mkF m 252 #[.val (.int a), .val (.long d), .second, .val (.int (3 : Int32)), .val (.int b4), .val (.int ps), .unset] [(.int (5 : Int32)), (.ref nb220), (.ref nb220)])
      refine own_st (fun t_ k_ => XS.lloadN X230.here hx rfl (hb hby d2_252) rfl k_) ?_
      show own_Go p e below _ T230 (mkF m 253 #[.val (.int a), .val (.long d), .second, .val (.int (3 : Int32)), .val (.int b4), .val (.int ps), .unset] [(.long d), (.int (5 : Int32)), (.ref nb220), (.ref nb220)])
      refine own_st (fun t_ k_ => XS.iconst X230.here hx rfl (hb hby d2_253) k_) ?_
      show own_Go p e below _ T230 (mkF m 254 #[.val (.int a), .val (.long d), .second, .val (.int (3 : Int32)), .val (.int b4), .val (.int ps), .unset] [(.int (5 : Int32)), (.long d), (.int (5 : Int32)), (.ref nb220), (.ref nb220)])
      refine own_callS X230 hx (y := (⟨"com/example/lean_pubsub/leanpubsub/codec/ProtocolVersionFindPinLaw", "pick", "(JI)C"⟩ : MethodName)) hown (mvT hZ (hw _ (List.mem_of_getElem? (i := 75) rfl))) (mvT hZ (hw _ (List.mem_of_getElem? (i := 76) rfl))) (mvT hZ (hw _ (List.mem_of_getElem? (i := 2) rfl))) (mvT hZ (hw _ (List.mem_of_getElem? (i := 77) rfl))) (by decide) (backOf (W := 3) (rmPK l Z a0 hw [] d (5 : Int32) h230 n0 (Nat.le_trans Z0 K230.1)) hZ (hw _ (List.mem_of_getElem? (i := 77) rfl)) (hw _ (List.mem_of_getElem? (i := 2) rfl)) (by decide) (by decide)) (g := (mkF m 254 #[.val (.int a), .val (.long d), .second, .val (.int (3 : Int32)), .val (.int b4), .val (.int ps), .unset] [(.int (5 : Int32)), (.long d), (.int (5 : Int32)), (.ref nb220), (.ref nb220)])) rfl (by rw [hml]; rfl) (argsL := [(.long d), (.int (5 : Int32))]) (rest := [(.int (5 : Int32)), (.ref nb220), (.ref nb220)]) (lenOf pd_1 rfl) rfl (by show 2 * 0 + _ ≤ _; exact Nat.le_of_eq rfl) (hb hby d2_254) rfl e230 (by decide) (by decide) ?_
      rintro v231 T231 L231 X231 ⟨c231, rfl, Nq231, hh231, lc231⟩
      have N231 := Fr.app N230 Nq231
      show own_Go p e below _ T231 (mkF m 257 #[.val (.int a), .val (.long d), .second, .val (.int (3 : Int32)), .val (.int b4), .val (.int ps), .unset] [(.int c231), (.int (5 : Int32)), (.ref nb220), (.ref nb220)])
      obtain ⟨cl232, Ar232, q232, S232, N232', H232, G232⟩ := id V230
      have hin232 : ¬ ((5 : Int32) < 0 ∨ cl232.slots.size ≤ ((5 : Int32)).toNatClampNeg) := inb_of S232 ⟨by decide, by decide⟩
      obtain ⟨T232, h232, X232, e232, W232, st232⟩ := stC X231 hx hZ hh231 Ar232 (j := (5 : Int32)) hin232 (g := (mkF m 257 #[.val (.int a), .val (.long d), .second, .val (.int (3 : Int32)), .val (.int b4), .val (.int ps), .unset] [(.int c231), (.int (5 : Int32)), (.ref nb220), (.ref nb220)])) rfl rfl (hb hby d2_257)
      have V232 : Arv Z h232 nb220 k220 .char (6 : Int32) [(.int (nar .char c221)), (.int (nar .char c223)), (.int (nar .char c225)), (.int (nar .char c227)), (.int (nar .char c229)), (.int (nar .char c231))] (.int (0 : Int32)) := Arv.set Ar232 q232 S232 N232' H232 G232 (fits_nar_char _) W232 5 rfl (Nat.le_of_ble_eq_true rfl)
      refine own_st st232 ?_
      have N232 := Fr.snoc X232 N231 g_nb220
      have K232 : Keep h0 h232 [] := K230.wr W232 (Or.inr sz_nb220)
      show own_Go p e below _ T232 (mkF m 258 #[.val (.int a), .val (.long d), .second, .val (.int (3 : Int32)), .val (.int b4), .val (.int ps), .unset] [(.ref nb220)])
      refine own_st (fun t_ k_ => XS.astore X232.here hx rfl (hb hby d2_258) rfl rfl (l' := #[.val (.int a), .val (.long d), .second, .val (.int (3 : Int32)), .val (.int b4), .val (.int ps), .val (.ref nb220)]) rfl k_) ?_
      show own_Go p e below _ T232 (mkF m 260 #[.val (.int a), .val (.long d), .second, .val (.int (3 : Int32)), .val (.int b4), .val (.int ps), .val (.ref nb220)] [])
      obtain ⟨T233, h233, X233, e233, E233, A233, D233, cel233, st233⟩ := newO X232 hx hZ hown (hw _ (List.mem_of_getElem? (i := 5) rfl)) (hw _ (List.mem_of_getElem? (i := 6) rfl)) (hw _ (List.mem_of_getElem? (i := 7) rfl)) e232 (g := (mkF m 260 #[.val (.int a), .val (.long d), .second, .val (.int (3 : Int32)), .val (.int b4), .val (.int ps), .val (.ref nb220)] [])) rfl (hb hby d2_260) (by decide) (by decide)
      obtain ⟨nb233, g233⟩ : ∃ z, z = h232.size := ⟨_, rfl⟩
      rw [← g233] at A233 D233 cel233 st233
      refine own_st st233 ?_
      have g_nb233 : n0 ≤ nb233 := Nat.le_trans (Nat.le_trans Z0 K232.1) (Nat.le_of_eq g233.symm)
      have K233 : Keep h0 h233 [] := K232.ext E233
      have sz_nb233 : h0.size ≤ nb233 := Nat.le_trans K232.1 (Nat.le_of_eq g233.symm)
      have F233_coder : Fld Z h233 nb233 "java/lang/String" "coder" "B" (.int (0 : Int32)) := D233 (Or.inr (hw _ (List.mem_of_getElem? (i := 31) rfl))) (ty := .byte) (by decide)
      have F233_value : Fld Z h233 nb233 "java/lang/String" "value" "[B" .null := D233 (Or.inr (hw _ (List.mem_of_getElem? (i := 33) rfl))) (ty := (.array .byte)) (by decide)
      show own_Go p e below _ T233 (mkF m 263 #[.val (.int a), .val (.long d), .second, .val (.int (3 : Int32)), .val (.int b4), .val (.int ps), .val (.ref nb220)] [(.ref nb233)])
      refine own_st (fun t_ k_ => XS.dup X233.here hx rfl (hb hby d2_263) rfl rfl k_) ?_
      show own_Go p e below _ T233 (mkF m 264 #[.val (.int a), .val (.long d), .second, .val (.int (3 : Int32)), .val (.int b4), .val (.int ps), .val (.ref nb220)] [(.ref nb233), (.ref nb233)])
      refine own_st (fun t_ k_ => XS.aload X233.here hx rfl (hb hby d2_264) rfl rfl k_) ?_
      show own_Go p e below _ T233 (mkF m 266 #[.val (.int a), .val (.long d), .second, .val (.int (3 : Int32)), .val (.int b4), .val (.int ps), .val (.ref nb220)] [(.ref nb220), (.ref nb233), (.ref nb233)])
      have hp234 : ∀ c ∈ ([(nar .char c221), (nar .char c223), (nar .char c225), (nar .char c227), (nar .char c229), (nar .char c231)] : List Int32), ¬ c < 0 ∧ ¬ (255 : Int32) < c := (own_lcons (own_LLN lc221) (own_lcons (own_LLN lc223) (own_lcons (own_LLN lc225) (own_lcons (own_LLN lc227) (own_lcons (own_LLN lc229) (own_lcons (own_LLN lc231) own_lnil))))))
      have f235 := (V232.ext E233)
      have f236 := (O0.ext E220)
      have f237 := (f236.wr W222 g_nb220)
      have f238 := (f237.wr W224 g_nb220)
      have f239 := (f238.wr W226 g_nb220)
      have f240 := (f239.wr W228 g_nb220)
      have f241 := (f240.wr W230 g_nb220)
      have f242 := (f241.wr W232 g_nb220)
      have f243 := (f242.ext E233)
      refine own_callN X233 hx (y := (⟨"java/lang/String", "<init>", "([C)V"⟩ : MethodName)) rfl hown (mvT hZ (hw _ (List.mem_of_getElem? (i := 8) rfl))) (mvT hZ (hw _ (List.mem_of_getElem? (i := 9) rfl))) (mvT hZ (hw _ (List.mem_of_getElem? (i := 10) rfl))) (by decide) (StrChars.Road.backV (W := 1) hZ (own_words hw) (kI := 4) (hw _ (List.mem_of_getElem? (i := 6) rfl)) (cs := ([(nar .char c221), (nar .char c223), (nar .char c225), (nar .char c227), (nar .char c229), (nar .char c231)] : List Int32)) (bs := ([(nar .char c221), (nar .char c223), (nar .char c225), (nar .char c227), (nar .char c229), (nar .char c231)] : List Int32).map (fun c => c.toInt8.toInt32)) (n := 6) g_nb233 (Nat.le_trans Z0 K233.1) A233 F233_value F233_coder f235 (Sta.ext f243.2 SC) hCS rfl rfl (by decide) (by decide) hp234 rfl (by decide) (by decide)) (a := nb233) (g := (mkF m 266 #[.val (.int a), .val (.long d), .second, .val (.int (3 : Int32)), .val (.int b4), .val (.int ps), .val (.ref nb220)] [(.ref nb220), (.ref nb233), (.ref nb233)])) rfl (by rw [hml]; rfl) (argsL := [(.ref nb220)]) (rest := [(.ref nb233)]) (lenOf pd_0 rfl) rfl (by show 2 * 0 + _ ≤ _; exact Nat.le_of_eq rfl) (hb hby d2_266) rfl e233 (by decide) (by decide) ?_
      rintro v234 T234 L234 X234 ⟨rfl, Nq234, Kq234, Eq234, Cq234, t234, kb234, g_t234, gt234, nt234, Vq234, Aq234⟩
      have sz_t234 : h0.size ≤ t234 := Nat.le_trans K233.1 gt234
      have N234 := Fr.app N232 Nq234
      have K234 : Keep h0 T234.heap [] := K233.trans Kq234 (allS (Or.inr sz_nb233) all0)
      show own_Go p e below _ T234 (mkF m 269 #[.val (.int a), .val (.long d), .second, .val (.int (3 : Int32)), .val (.int b4), .val (.int ps), .val (.ref nb220)] [(.ref nb233)])
      refine own_retA X234 hx hlk Bd.returns rfl rfl (hb hby d2_269) ?_ (by decide) (by decide)
      show QNa Z h0 n0 _ T234.heap _
      exact ⟨([(nar .char c221), (nar .char c223), (nar .char c225), (nar .char c227), (nar .char c229), (nar .char c231)] : List Int32), Nat.le_of_ble_eq_true rfl, nb233, t234, kb234, rfl, N234, K234, sz_nb233, g_nb233, nt234, Eq234, Cq234, Vq234, Aq234, hp234⟩
  · show own_Go p e below _ s₁ (mkF m 9 #[.val (.int a), .val (.long d), .second, .val (.int kd), .unset, .unset, .unset] [(.int (((a.toUInt32 >>> ((2 : Int32) &&& 31).toUInt32).toInt32) &&& (1 : Int32)))])
    by_cases hc9_1 : (((a.toUInt32 >>> ((2 : Int32) &&& 31).toUInt32).toInt32) &&& (1 : Int32)) = (0 : Int32)
    · refine own_st (fun t_ k_ => XS.ifNo X0.here hx rfl (hb hby d2_9) rfl ((if0 _ _).trans (teq hc9_1).2) k_) ?_
      show own_Go p e below _ s₁ (mkF m 12 #[.val (.int a), .val (.long d), .second, .val (.int kd), .unset, .unset, .unset] [])
      refine own_st (fun t_ k_ => XS.iconst X0.here hx rfl (hb hby d2_12) k_) ?_
      show own_Go p e below _ s₁ (mkF m 13 #[.val (.int a), .val (.long d), .second, .val (.int kd), .unset, .unset, .unset] [(.int (1 : Int32))])
      refine own_st (fun t_ k_ => XS.goto X0.here hx rfl (pc0 := 13) (pc' := 17) rfl (hb hby d2_13) (by decide) (by decide) k_) ?_
      show own_Go p e below _ s₁ (mkF m 17 #[.val (.int a), .val (.long d), .second, .val (.int kd), .unset, .unset, .unset] [(.int (1 : Int32))])
      exact J_b4 (1 : Int32) (Or.inr rfl)
    · refine own_st (fun t_ k_ => XS.ifYes X0.here hx rfl (pc0 := 9) (pc' := 16) rfl (hb hby d2_9) rfl ((if0 _ _).trans (feq hc9_1).2) (by decide) (by decide) k_) ?_
      show own_Go p e below _ s₁ (mkF m 16 #[.val (.int a), .val (.long d), .second, .val (.int kd), .unset, .unset, .unset] [])
      refine own_st (fun t_ k_ => XS.iconst X0.here hx rfl (hb hby d2_16) k_) ?_
      show own_Go p e below _ s₁ (mkF m 17 #[.val (.int a), .val (.long d), .second, .val (.int kd), .unset, .unset, .unset] [(.int (0 : Int32))])
      exact J_b4 (0 : Int32) (Or.inl rfl)
def QV2 (Z : State) (u0 u1 : Addr) (ks : ClassId) (h0 : Heap) (n0 : Nat) (v : Option Value) (h : Heap) (L : List Loc) : Prop := ∃ x : Addr, v = some (.ref x) ∧ Fr n0 L ∧ Keep h0 h [] ∧ h0.size ≤ x ∧ Arv Z h x ks (.object "com/example/lean_pubsub/leanpubsub/codec/ProtocolVersion") (2 : Int32) [(.ref u0), (.ref u1)] .null
theorem d3_0 : decode prog_33_method_1_code 0 = .ok (.getstatic 10, 3) := by decide +kernel
theorem d3_3 : decode prog_33_method_1_code 3 = .ok (.invokevirtual 14, 3) := by decide +kernel
theorem d3_6 : decode prog_33_method_1_code 6 = .ok (.checkcast 15, 3) := by decide +kernel
theorem d3_9 : decode prog_33_method_1_code 9 = .ok (.areturn, 1) := by decide +kernel
theorem pn_1 : plainName "com/example/lean_pubsub/leanpubsub/codec/ProtocolVersion" = true := by first | (simp [plainName, overriddenIn]; done) | decide +kernel
theorem ef_rmVA (m : MethodId)  : entryFrame m #[] 0 = mkF m 0 #[] [] := by first | (simp [entryFrame, mkF, argsToLocals, Value.category]; done) | rfl
set_option maxRecDepth 65536 in
set_option maxHeartbeats 40000000 in
theorem rmVA (l : Launch) (Z : State) (a0 : Array Value) (hw : ∀ d ∈ tables_1, d.before a0 Z = true) (ws : List Jvm.Cond) (sv u0 u1 : Addr) (ks : ClassId) (h0 : Heap) (n0 : Nat) (Z0 : n0 ≤ h0.size) (SV : Sta Z h0 "com/example/lean_pubsub/leanpubsub/codec/ProtocolVersion" "$VALUES" "[Lcom/example/lean_pubsub/leanpubsub/codec/ProtocolVersion;" (.ref sv)) (Av : Arv Z h0 sv ks (.object "com/example/lean_pubsub/leanpubsub/codec/ProtocolVersion") (2 : Int32) [(.ref u0), (.ref u1)] .null) (Ev : Exa Z h0 sv "[Lcom/example/lean_pubsub/leanpubsub/codec/ProtocolVersion;") :
    MetFree l (⟨"com/example/lean_pubsub/leanpubsub/codec/ProtocolVersion", "values", "()[Lcom/example/lean_pubsub/leanpubsub/codec/ProtocolVersion;"⟩ : MethodName) (head1 (Jvm.Cond.code (⟨"com/example/lean_pubsub/leanpubsub/codec/ProtocolVersion", "values", "()[Lcom/example/lean_pubsub/leanpubsub/codec/ProtocolVersion;"⟩ : MethodName) prog_33_method_1_code 0 (some (.array (.object "com/example/lean_pubsub/leanpubsub/codec/ProtocolVersion"))) :: ws) ({ frames := 1, cells := 1, slots := 2, locals := 14 } : Room)) (fun a_ U_ => a_ = #[] ∧ Z.Warmed39 U_.vm ∧ U_.heap = h0) (fun _ _ _ _ _ => True) (fun _ U_ o_ U'_ => ∃ v_ L_, o_ = .returned v_ ∧ QV2 Z u0 u1 ks h0 n0 v_ U'_.heap L_ ∧ FrameEnd U_ o_ U'_ L_ ({ frames := 1, cells := 1, slots := 2, locals := 14 } : Room).cells ({ frames := 1, cells := 1, slots := 2, locals := 14 } : Room).slots) := by
  refine MetFree.of_bodySF (plainFor_of_name pn_1) hisR ?_
  intro p e s m args below meth c s₁ Bd hml0 hP hK
  obtain ⟨rfl, hZ, hh⟩ := hP
  have hx := Bd.exec
  have hby := Bd.bytes
  have hml : c.maxLocals = 0 := hml0
  have hown : s.vm.findClass "com/example/lean_pubsub/leanpubsub/codec/ProtocolVersion" = some m.cls := findClass_of_methodNamed Bd.named
  have hnm := (name_of_methodNamed Bd.named Bd.method).1
  have hlk := BodyLoose.notSynchronized Bd
  have X0 : Stand p l e ({ frames := 1, cells := 1, slots := 2, locals := 14 } : Room) s m #[] below meth c s₁ [] 0 0 := Stand.of_body Bd
  have e0 : s₁.heap = h0 := by rw [← hh, Bd.state]; rfl
  have N0 := Fr.nil n0
  refine own_entry (P := own_End s (QV2 Z u0 u1 ks h0 n0) ({ frames := 1, cells := 1, slots := 2, locals := 14 } : Room).cells ({ frames := 1, cells := 1, slots := 2, locals := 14 } : Room).slots) (ef_rmVA m ) ?_
  show own_Go p e below _ s₁ (mkF m 0 #[] [])
  obtain ⟨T1, X1, e1, st1⟩ := getS2 X0 hx hZ hown (host := "") (Or.inl (hw _ (List.mem_of_getElem? (i := 57) rfl))) Via.refl e0 SV (g := (mkF m 0 #[] [])) rfl (hb hby d3_0)
  refine own_st st1 ?_
  show own_Go p e below _ T1 (mkF m 3 #[] [(.ref sv)])
  obtain ⟨T2, h2, X2, e2, E2, A2, D2, st2⟩ := cloneH X1 hx hZ hown (hw _ (List.mem_of_getElem? (i := 59) rfl)) (hw _ (List.mem_of_getElem? (i := 60) rfl)) (hw _ (List.mem_of_getElem? (i := 64) rfl)) (hw _ (List.mem_of_getElem? (i := 62) rfl)) (hw _ (List.mem_of_getElem? (i := 63) rfl)) (hw _ (List.mem_of_getElem? (i := 65) rfl)) e1 (Arv.arh Av) Ev (g := (mkF m 3 #[] [(.ref sv)])) rfl (by rw [hml]; rfl) rfl (hb hby d3_3) (by decide) (W := 0) (cap := 2) (by show 2 * 0 + _ ≤ _; exact Nat.le_of_eq rfl) (by decide) (by decide) (by decide) (by decide)
  obtain ⟨nb2, g2⟩ : ∃ z, z = h0.size := ⟨_, rfl⟩
  rw [← g2] at A2 D2 st2
  refine own_st st2 ?_
  have g_nb2 : n0 ≤ nb2 := Nat.le_trans (Nat.le_trans Z0 (Keep.refl h0 []).1) (Nat.le_of_eq g2.symm)
  have K2 : Keep h0 h2 [] := (Keep.refl h0 []).ext E2
  have sz_nb2 : h0.size ≤ nb2 := Nat.le_trans (Keep.refl h0 []).1 (Nat.le_of_eq g2.symm)
  have V2 : Arv Z h2 nb2 ks (.object "com/example/lean_pubsub/leanpubsub/codec/ProtocolVersion") (2 : Int32) [(.ref u0), (.ref u1)] .null := A2
  show own_Go p e below _ T2 (mkF m 6 #[] [(.ref nb2)])
  obtain ⟨T3, X3, e3, st3⟩ := castY X2 hx hZ hown (hw _ (List.mem_of_getElem? (i := 68) rfl)) e2 (Ins.self D2) (g := (mkF m 6 #[] [(.ref nb2)])) rfl rfl (hb hby d3_6)
  refine own_st st3 ?_
  show own_Go p e below _ T3 (mkF m 9 #[] [(.ref nb2)])
  refine own_retA X3 hx hlk Bd.returns rfl rfl (hb hby d3_9) ?_ (by decide) (by decide)
  show QV2 Z u0 u1 ks h0 n0 _ T3.heap _
  rw [e3]
  exact ⟨nb2, rfl, N0, K2, sz_nb2, V2⟩
def own_find (cs : List Int32) (lv : Int32) (u0 u1 : Addr) : Value := if cs = ([77, 81, 73, 115, 100, 112] : List Int32) ∧ lv = (3 : Int32) then .ref u0 else if cs = ([77, 81, 84, 84] : List Int32) ∧ lv = (4 : Int32) then .ref u1 else .null
def QF (r : Value) (h0 : Heap) (n0 : Nat) (v : Option Value) (h : Heap) (L : List Loc) : Prop := v = some r ∧ Fr n0 L ∧ Keep h0 h []
theorem d4_0 : decode prog_33_method_5_code 0 = .ok (.invokestatic 37, 3) := by decide +kernel
theorem pd_2 : parseMethodDescriptor "()[Lcom/example/lean_pubsub/leanpubsub/codec/ProtocolVersion;" = some ⟨[], some (.array (.object "com/example/lean_pubsub/leanpubsub/codec/ProtocolVersion"))⟩ := by decide +kernel
theorem d4_3 : decode prog_33_method_5_code 3 = .ok (.astore_n 2, 1) := by decide +kernel
theorem d4_4 : decode prog_33_method_5_code 4 = .ok (.aload_n 2, 1) := by decide +kernel
theorem d4_5 : decode prog_33_method_5_code 5 = .ok (.arraylength, 1) := by decide +kernel
theorem d4_6 : decode prog_33_method_5_code 6 = .ok (.istore_n 3, 1) := by decide +kernel
theorem d4_7 : decode prog_33_method_5_code 7 = .ok (.iconst 0, 1) := by decide +kernel
theorem d4_8 : decode prog_33_method_5_code 8 = .ok (.istore 4, 2) := by decide +kernel
theorem d4_10 : decode prog_33_method_5_code 10 = .ok (.iload 4, 2) := by decide +kernel
theorem d4_12 : decode prog_33_method_5_code 12 = .ok (.iload_n 3, 1) := by decide +kernel
theorem d4_13 : decode prog_33_method_5_code 13 = .ok (.if_icmp .ge 39, 3) := by decide +kernel
theorem d4_16 : decode prog_33_method_5_code 16 = .ok (.aload_n 2, 1) := by decide +kernel
theorem d4_17 : decode prog_33_method_5_code 17 = .ok (.iload 4, 2) := by decide +kernel
theorem d4_19 : decode prog_33_method_5_code 19 = .ok (.aaload, 1) := by decide +kernel
theorem d4_20 : decode prog_33_method_5_code 20 = .ok (.astore 5, 2) := by decide +kernel
theorem d4_22 : decode prog_33_method_5_code 22 = .ok (.aload 5, 2) := by decide +kernel
theorem d4_24 : decode prog_33_method_5_code 24 = .ok (.getfield 29, 3) := by decide +kernel
theorem d4_27 : decode prog_33_method_5_code 27 = .ok (.aload_n 0, 1) := by decide +kernel
theorem d4_28 : decode prog_33_method_5_code 28 = .ok (.invokevirtual 41, 3) := by decide +kernel
theorem pd_3 : parseMethodDescriptor "(Ljava/lang/Object;)Z" = some ⟨[(.object "java/lang/Object")], some .boolean⟩ := by decide +kernel
theorem d4_31 : decode prog_33_method_5_code 31 = .ok (.ifCond .eq 15, 3) := by decide +kernel
theorem d4_34 : decode prog_33_method_5_code 34 = .ok (.aload 5, 2) := by decide +kernel
theorem d4_36 : decode prog_33_method_5_code 36 = .ok (.getfield 33, 3) := by decide +kernel
theorem d4_39 : decode prog_33_method_5_code 39 = .ok (.iload_n 1, 1) := by decide +kernel
theorem d4_40 : decode prog_33_method_5_code 40 = .ok (.if_icmp .ne 6, 3) := by decide +kernel
theorem d4_43 : decode prog_33_method_5_code 43 = .ok (.aload 5, 2) := by decide +kernel
theorem own_leaf1 (cs : List Int32) (lv : Int32) (u0 u1 : Addr) (hcs6 : ([77, 81, 73, 115, 100, 112] : List Int32) = cs) (hv40_19 : (3 : Int32) = lv) : (.ref u0) = own_find cs lv u0 u1 := by
  unfold own_find
  subst hcs6
  subst hv40_19
  simp
theorem d4_45 : decode prog_33_method_5_code 45 = .ok (.areturn, 1) := by decide +kernel
theorem d4_46 : decode prog_33_method_5_code 46 = .ok (.iinc 4 1, 3) := by decide +kernel
theorem d4_49 : decode prog_33_method_5_code 49 = .ok (.goto (-39), 3) := by decide +kernel
theorem d4_52 : decode prog_33_method_5_code 52 = .ok (.aconst_null, 1) := by decide +kernel
theorem own_leaf2 (cs : List Int32) (lv : Int32) (u0 u1 : Addr) (hcs6 : ([77, 81, 73, 115, 100, 112] : List Int32) = cs) (hv40_19 : ¬ ((3 : Int32) = lv)) (hcs23 : ¬ ([77, 81, 84, 84] : List Int32) = cs) : .null = own_find cs lv u0 u1 := by
  unfold own_find
  have ghv40_19 : ¬ lv = (3 : Int32) := fun q => hv40_19 q.symm
  have ghcs23 : ¬ cs = ([77, 81, 84, 84] : List Int32) := fun q => hcs23 q.symm
  subst hcs6
  simp [ghv40_19, ghcs23]
theorem d4_53 : decode prog_33_method_5_code 53 = .ok (.areturn, 1) := by decide +kernel
theorem own_leaf3 (cs : List Int32) (lv : Int32) (u0 u1 : Addr) (hcs6 : ¬ ([77, 81, 73, 115, 100, 112] : List Int32) = cs) (hcs32 : ([77, 81, 84, 84] : List Int32) = cs) (hv40_40 : (4 : Int32) = lv) : (.ref u1) = own_find cs lv u0 u1 := by
  unfold own_find
  have ghcs6 : ¬ cs = ([77, 81, 73, 115, 100, 112] : List Int32) := fun q => hcs6 q.symm
  subst hcs32
  subst hv40_40
  simp [ghcs6]
theorem own_leaf4 (cs : List Int32) (lv : Int32) (u0 u1 : Addr) (hcs6 : ¬ ([77, 81, 73, 115, 100, 112] : List Int32) = cs) (hcs32 : ([77, 81, 84, 84] : List Int32) = cs) (hv40_40 : ¬ ((4 : Int32) = lv)) : .null = own_find cs lv u0 u1 := by
  unfold own_find
  have ghcs6 : ¬ cs = ([77, 81, 73, 115, 100, 112] : List Int32) := fun q => hcs6 q.symm
  have ghv40_40 : ¬ lv = (4 : Int32) := fun q => hv40_40 q.symm
  subst hcs32
  simp [ghcs6, ghv40_40]
theorem own_leaf5 (cs : List Int32) (lv : Int32) (u0 u1 : Addr) (hcs6 : ¬ ([77, 81, 73, 115, 100, 112] : List Int32) = cs) (hcs32 : ¬ ([77, 81, 84, 84] : List Int32) = cs) : .null = own_find cs lv u0 u1 := by
  unfold own_find
  have ghcs6 : ¬ cs = ([77, 81, 73, 115, 100, 112] : List Int32) := fun q => hcs6 q.symm
  have ghcs32 : ¬ cs = ([77, 81, 84, 84] : List Int32) := fun q => hcs32 q.symm
  simp [ghcs6, ghcs32]
theorem ef_rmFI (m : MethodId) (x0 : Addr) (x1 : Int32) : entryFrame m #[(.ref x0), (.int x1)] 6 = mkF m 0 #[.val (.ref x0), .val (.int x1), .unset, .unset, .unset, .unset] [] := by first | (simp [entryFrame, mkF, argsToLocals, Value.category]; done) | rfl
set_option maxRecDepth 65536 in
set_option maxHeartbeats 40000000 in
theorem rmFI (l : Launch) (Z : State) (a0 : Array Value) (hw : ∀ d ∈ tables_1, d.before a0 Z = true) (ws : List Jvm.Cond) (n tn : Addr) (kbn : ClassId) (cs : List Int32) (lv : Int32) (r : Value) (G : Int32) (sv u0 u1 m0 vq0 m1 vq1 : Addr) (ks kbA kbB : ClassId) (h0 : Heap) (n0 : Nat) (Z0 : n0 ≤ h0.size) (SV : Sta Z h0 "com/example/lean_pubsub/leanpubsub/codec/ProtocolVersion" "$VALUES" "[Lcom/example/lean_pubsub/leanpubsub/codec/ProtocolVersion;" (.ref sv)) (Av : Arv Z h0 sv ks (.object "com/example/lean_pubsub/leanpubsub/codec/ProtocolVersion") (2 : Int32) [(.ref u0), (.ref u1)] .null) (Ev : Exa Z h0 sv "[Lcom/example/lean_pubsub/leanpubsub/codec/ProtocolVersion;") (Eu0 : Exa Z h0 u0 "com/example/lean_pubsub/leanpubsub/codec/ProtocolVersion") (Eu1 : Exa Z h0 u1 "com/example/lean_pubsub/leanpubsub/codec/ProtocolVersion") (Fn0 : Fld Z h0 u0 "com/example/lean_pubsub/leanpubsub/codec/ProtocolVersion" "protocolName" "Ljava/lang/String;" (.ref m0)) (Fl0 : Fld Z h0 u0 "com/example/lean_pubsub/leanpubsub/codec/ProtocolVersion" "protocolLevel" "I" (.int (3 : Int32))) (Fn1 : Fld Z h0 u1 "com/example/lean_pubsub/leanpubsub/codec/ProtocolVersion" "protocolName" "Ljava/lang/String;" (.ref m1)) (Fl1 : Fld Z h0 u1 "com/example/lean_pubsub/leanpubsub/codec/ProtocolVersion" "protocolLevel" "I" (.int (4 : Int32))) (EpA : Exa Z h0 m0 "java/lang/String") (CpA : Fld Z h0 m0 "java/lang/String" "coder" "B" (.int 0)) (VpA : Fld Z h0 m0 "java/lang/String" "value" "[B" (.ref vq0)) (ApA : Arv Z h0 vq0 kbA .byte (Int32.ofNat (([77, 81, 73, 115, 100, 112] : List Int32)).length) (((([77, 81, 73, 115, 100, 112] : List Int32)).map (fun c => c.toInt8.toInt32)).map Value.int) (.int 0)) (hppA : ∀ c ∈ ([77, 81, 73, 115, 100, 112] : List Int32), ¬ c < 0 ∧ ¬ (255 : Int32) < c) (l2pA : (([77, 81, 73, 115, 100, 112] : List Int32)).length ≤ 4000) (EpB : Exa Z h0 m1 "java/lang/String") (CpB : Fld Z h0 m1 "java/lang/String" "coder" "B" (.int 0)) (VpB : Fld Z h0 m1 "java/lang/String" "value" "[B" (.ref vq1)) (ApB : Arv Z h0 vq1 kbB .byte (Int32.ofNat (([77, 81, 84, 84] : List Int32)).length) (((([77, 81, 84, 84] : List Int32)).map (fun c => c.toInt8.toInt32)).map Value.int) (.int 0)) (hppB : ∀ c ∈ ([77, 81, 84, 84] : List Int32), ¬ c < 0 ∧ ¬ (255 : Int32) < c) (l2pB : (([77, 81, 84, 84] : List Int32)).length ≤ 4000) (Epn : Exa Z h0 n "java/lang/String") (Cpn : Fld Z h0 n "java/lang/String" "coder" "B" (.int 0)) (Vpn : Fld Z h0 n "java/lang/String" "value" "[B" (.ref tn)) (Apn : Arv Z h0 tn kbn .byte (Int32.ofNat (cs).length) (((cs).map (fun c => c.toInt8.toInt32)).map Value.int) (.int 0)) (hppn : ∀ c ∈ cs, ¬ c < 0 ∧ ¬ (255 : Int32) < c) (l2pn : (cs).length ≤ 4000) (SC : Sta Z Z.heap "java/lang/String" "COMPACT_STRINGS" "Z" (.int G)) (hCS : ¬ G = 0) (O0 : Old Z n0 h0) (hr : r = own_find cs lv u0 u1) :
    MetFree l (⟨"com/example/lean_pubsub/leanpubsub/codec/ProtocolVersion", "find", "(Ljava/lang/String;I)Lcom/example/lean_pubsub/leanpubsub/codec/ProtocolVersion;"⟩ : MethodName) (head1 (Jvm.Cond.code (⟨"com/example/lean_pubsub/leanpubsub/codec/ProtocolVersion", "find", "(Ljava/lang/String;I)Lcom/example/lean_pubsub/leanpubsub/codec/ProtocolVersion;"⟩ : MethodName) prog_33_method_5_code 6 (some (.object "com/example/lean_pubsub/leanpubsub/codec/ProtocolVersion")) :: ws) ({ frames := 2, cells := 1, slots := 2, locals := 28 } : Room)) (fun a_ U_ => a_ = #[(.ref n), (.int lv)] ∧ Z.Warmed39 U_.vm ∧ U_.heap = h0) (fun _ _ _ _ _ => True) (fun _ U_ o_ U'_ => ∃ v_ L_, o_ = .returned v_ ∧ QF r h0 n0 v_ U'_.heap L_ ∧ FrameEnd U_ o_ U'_ L_ ({ frames := 2, cells := 1, slots := 2, locals := 28 } : Room).cells ({ frames := 2, cells := 1, slots := 2, locals := 28 } : Room).slots) := by
  refine MetFree.of_bodySF (plainFor_of_name pn_1) hisR ?_
  intro p e s m args below meth c s₁ Bd hml0 hP hK
  obtain ⟨rfl, hZ, hh⟩ := hP
  have hx := Bd.exec
  have hby := Bd.bytes
  have hml : c.maxLocals = 6 := hml0
  have hown : s.vm.findClass "com/example/lean_pubsub/leanpubsub/codec/ProtocolVersion" = some m.cls := findClass_of_methodNamed Bd.named
  have hnm := (name_of_methodNamed Bd.named Bd.method).1
  have hlk := BodyLoose.notSynchronized Bd
  have X0 : Stand p l e ({ frames := 2, cells := 1, slots := 2, locals := 28 } : Room) s m #[(.ref n), (.int lv)] below meth c s₁ [] 0 0 := Stand.of_body Bd
  have e0 : s₁.heap = h0 := by rw [← hh, Bd.state]; rfl
  have N0 := Fr.nil n0
  refine own_entry (P := own_End s (QF r h0 n0) ({ frames := 2, cells := 1, slots := 2, locals := 28 } : Room).cells ({ frames := 2, cells := 1, slots := 2, locals := 28 } : Room).slots) (ef_rmFI m n lv) ?_
  show own_Go p e below _ s₁ (mkF m 0 #[.val (.ref n), .val (.int lv), .unset, .unset, .unset, .unset] [])
  refine own_callS X0 hx (y := (⟨"com/example/lean_pubsub/leanpubsub/codec/ProtocolVersion", "values", "()[Lcom/example/lean_pubsub/leanpubsub/codec/ProtocolVersion;"⟩ : MethodName)) hown (mvT hZ (hw _ (List.mem_of_getElem? (i := 54) rfl))) (mvT hZ (hw _ (List.mem_of_getElem? (i := 55) rfl))) (mvT hZ (hw _ (List.mem_of_getElem? (i := 48) rfl))) (mvT hZ (hw _ (List.mem_of_getElem? (i := 56) rfl))) (by decide) (backOf (W := 0) (rmVA l Z a0 hw [] sv u0 u1 ks h0 n0 (Nat.le_trans Z0 (Keep.refl h0 []).1) SV Av Ev) hZ (hw _ (List.mem_of_getElem? (i := 56) rfl)) (hw _ (List.mem_of_getElem? (i := 48) rfl)) (by decide) (by decide)) (g := (mkF m 0 #[.val (.ref n), .val (.int lv), .unset, .unset, .unset, .unset] [])) rfl (by rw [hml]; rfl) (argsL := []) (rest := []) (lenOf pd_2 rfl) rfl (by show 2 * 0 + _ ≤ _; exact Nat.le_of_eq rfl) (hb hby d4_0) rfl e0 (by decide) (by decide) ?_
  rintro v1 T1 L1 X1 ⟨x1, rfl, Nq1, Kq1, gx1, Ax1⟩
  have N1 := Fr.app N0 Nq1
  have K1 : Keep h0 T1.heap [] := (Keep.refl h0 []).trans Kq1 all0
  show own_Go p e below _ T1 (mkF m 3 #[.val (.ref n), .val (.int lv), .unset, .unset, .unset, .unset] [(.ref x1)])
  refine own_st (fun t_ k_ => XS.astoreN X1.here hx rfl (hb hby d4_3) rfl rfl (l' := #[.val (.ref n), .val (.int lv), .val (.ref x1), .unset, .unset, .unset]) rfl k_) ?_
  show own_Go p e below _ T1 (mkF m 4 #[.val (.ref n), .val (.int lv), .val (.ref x1), .unset, .unset, .unset] [])
  refine own_st (fun t_ k_ => XS.aloadN X1.here hx rfl (hb hby d4_4) rfl rfl k_) ?_
  show own_Go p e below _ T1 (mkF m 5 #[.val (.ref n), .val (.int lv), .val (.ref x1), .unset, .unset, .unset] [(.ref x1)])
  obtain ⟨cl2, Ar2, -, S2, N2', -, -⟩ := id Ax1
  refine own_st (fun t_ k_ => X1.arraylength hx Ar2.1 (State.isArrayOf_alike hZ.alike Ar2.2.1) (g := (mkF m 5 #[.val (.ref n), .val (.int lv), .val (.ref x1), .unset, .unset, .unset] [(.ref x1)])) rfl rfl (hb hby d4_5) t_ k_) ?_
  rw [len_of S2 N2']
  show own_Go p e below _ T1 (mkF m 6 #[.val (.ref n), .val (.int lv), .val (.ref x1), .unset, .unset, .unset] [(.int (2 : Int32))])
  refine own_st (fun t_ k_ => XS.istoreN X1.here hx rfl (hb hby d4_6) rfl (l' := #[.val (.ref n), .val (.int lv), .val (.ref x1), .val (.int (2 : Int32)), .unset, .unset]) rfl k_) ?_
  show own_Go p e below _ T1 (mkF m 7 #[.val (.ref n), .val (.int lv), .val (.ref x1), .val (.int (2 : Int32)), .unset, .unset] [])
  refine own_st (fun t_ k_ => XS.iconst X1.here hx rfl (hb hby d4_7) k_) ?_
  show own_Go p e below _ T1 (mkF m 8 #[.val (.ref n), .val (.int lv), .val (.ref x1), .val (.int (2 : Int32)), .unset, .unset] [(.int (0 : Int32))])
  refine own_st (fun t_ k_ => XS.istore X1.here hx rfl (hb hby d4_8) rfl (l' := #[.val (.ref n), .val (.int lv), .val (.ref x1), .val (.int (2 : Int32)), .val (.int (0 : Int32)), .unset]) rfl k_) ?_
  show own_Go p e below _ T1 (mkF m 10 #[.val (.ref n), .val (.int lv), .val (.ref x1), .val (.int (2 : Int32)), .val (.int (0 : Int32)), .unset] [])
  refine own_st (fun t_ k_ => XS.iload X1.here hx rfl (hb hby d4_10) rfl k_) ?_
  show own_Go p e below _ T1 (mkF m 12 #[.val (.ref n), .val (.int lv), .val (.ref x1), .val (.int (2 : Int32)), .val (.int (0 : Int32)), .unset] [(.int (0 : Int32))])
  refine own_st (fun t_ k_ => XS.iloadN X1.here hx rfl (hb hby d4_12) rfl k_) ?_
  show own_Go p e below _ T1 (mkF m 13 #[.val (.ref n), .val (.int lv), .val (.ref x1), .val (.int (2 : Int32)), .val (.int (0 : Int32)), .unset] [(.int (2 : Int32)), (.int (0 : Int32))])
  refine own_st (fun t_ k_ => XS.icmpNo X1.here hx rfl (hb hby d4_13) rfl (by decide) k_) ?_
  show own_Go p e below _ T1 (mkF m 16 #[.val (.ref n), .val (.int lv), .val (.ref x1), .val (.int (2 : Int32)), .val (.int (0 : Int32)), .unset] [])
  refine own_st (fun t_ k_ => XS.aloadN X1.here hx rfl (hb hby d4_16) rfl rfl k_) ?_
  show own_Go p e below _ T1 (mkF m 17 #[.val (.ref n), .val (.int lv), .val (.ref x1), .val (.int (2 : Int32)), .val (.int (0 : Int32)), .unset] [(.ref x1)])
  refine own_st (fun t_ k_ => XS.iload X1.here hx rfl (hb hby d4_17) rfl k_) ?_
  show own_Go p e below _ T1 (mkF m 19 #[.val (.ref n), .val (.int lv), .val (.ref x1), .val (.int (2 : Int32)), .val (.int (0 : Int32)), .unset] [(.int (0 : Int32)), (.ref x1)])
  obtain ⟨cl3, Ar3, q3, S3, N3', H3, G3⟩ := id Ax1
  have hin3 : ¬ ((0 : Int32) < 0 ∨ cl3.slots.size ≤ ((0 : Int32)).toNatClampNeg) := inb_of S3 ⟨by decide, by decide⟩
  refine own_st (fun t_ k_ => X1.aaload hx (j := (0 : Int32)) (v := (.ref u0)) Ar3.1 (State.isArrayOf_alike hZ.alike Ar3.2.1) rfl Ar3.2.2 hin3 (Has.at H3 hin3 rfl) (g := (mkF m 19 #[.val (.ref n), .val (.int lv), .val (.ref x1), .val (.int (2 : Int32)), .val (.int (0 : Int32)), .unset] [(.int (0 : Int32)), (.ref x1)])) rfl rfl (hb hby d4_19) t_ k_) ?_
  show own_Go p e below _ T1 (mkF m 20 #[.val (.ref n), .val (.int lv), .val (.ref x1), .val (.int (2 : Int32)), .val (.int (0 : Int32)), .unset] [(.ref u0)])
  refine own_st (fun t_ k_ => XS.astore X1.here hx rfl (hb hby d4_20) rfl rfl (l' := #[.val (.ref n), .val (.int lv), .val (.ref x1), .val (.int (2 : Int32)), .val (.int (0 : Int32)), .val (.ref u0)]) rfl k_) ?_
  show own_Go p e below _ T1 (mkF m 22 #[.val (.ref n), .val (.int lv), .val (.ref x1), .val (.int (2 : Int32)), .val (.int (0 : Int32)), .val (.ref u0)] [])
  refine own_st (fun t_ k_ => XS.aload X1.here hx rfl (hb hby d4_22) rfl rfl k_) ?_
  show own_Go p e below _ T1 (mkF m 24 #[.val (.ref n), .val (.int lv), .val (.ref x1), .val (.int (2 : Int32)), .val (.int (0 : Int32)), .val (.ref u0)] [(.ref u0)])
  have f4 := (Fn0.keep Kq1 nin0)
  obtain ⟨T5, X5, e5, st5⟩ := getF X1 hx hZ hown (host := "") (Or.inl (hw _ (List.mem_of_getElem? (i := 70) rfl))) Via.refl rfl f4 (g := (mkF m 24 #[.val (.ref n), .val (.int lv), .val (.ref x1), .val (.int (2 : Int32)), .val (.int (0 : Int32)), .val (.ref u0)] [(.ref u0)])) rfl rfl (hb hby d4_24)
  refine own_st st5 ?_
  show own_Go p e below _ T5 (mkF m 27 #[.val (.ref n), .val (.int lv), .val (.ref x1), .val (.int (2 : Int32)), .val (.int (0 : Int32)), .val (.ref u0)] [(.ref m0)])
  refine own_st (fun t_ k_ => XS.aloadN X5.here hx rfl (hb hby d4_27) rfl rfl k_) ?_
  show own_Go p e below _ T5 (mkF m 28 #[.val (.ref n), .val (.int lv), .val (.ref x1), .val (.int (2 : Int32)), .val (.int (0 : Int32)), .val (.ref u0)] [(.ref n), (.ref m0)])
  have f7 := (O0.keep Kq1 all0)
  have f8 := (VpA.keep Kq1 nin0)
  have f9 := (EpA.keep Kq1)
  have f10 := (CpA.keep Kq1 nin0)
  have f11 := (ApA.keep Kq1 nin0)
  have f12 := (Vpn.keep Kq1 nin0)
  have f13 := (Epn.keep Kq1)
  have f14 := (Cpn.keep Kq1 nin0)
  have f15 := (Apn.keep Kq1 nin0)
  obtain ⟨cq16, kq16, q16a, q16b, q16c⟩ := isOf hZ e5 f9
  refine own_callV X5 hx (y := (⟨"java/lang/String", "equals", "(Ljava/lang/Object;)Z"⟩ : MethodName)) (z := (⟨"java/lang/String", "equals", "(Ljava/lang/Object;)Z"⟩ : MethodName)) hown (mvT hZ (hw _ (List.mem_of_getElem? (i := 72) rfl))) (mvT hZ (hw _ (List.mem_of_getElem? (i := 38) rfl))) (notFace_of_selects (args := #[]) (mvT hZ (hw _ (List.mem_of_getElem? (i := 40) rfl)))) (mvT hZ (hw _ (List.mem_of_getElem? (i := 40) rfl))) (mvT hZ (hw _ (List.mem_of_getElem? (i := 39) rfl))) (by decide) (own_eqB (StrChars.Road.eqW (W := 0) hZ (own_wEq hw) (kI := 4) (hw _ (List.mem_of_getElem? (i := 6) rfl)) f9 f8 f10 f11 (StrChars.Road.codOf rfl (fun c hc => (hppA c hc).2)) (own_up hppA) l2pA f13 f12 f14 f15 (StrChars.Road.codOf rfl (fun c hc => (hppn c hc).2)) (own_up hppn) l2pn (Sta.ext f7.2 SC) hCS (by decide) (by decide))) q16a q16c (g := (mkF m 28 #[.val (.ref n), .val (.int lv), .val (.ref x1), .val (.int (2 : Int32)), .val (.int (0 : Int32)), .val (.ref u0)] [(.ref n), (.ref m0)])) rfl (by rw [hml]; rfl) (argsL := [(.ref n)]) (rest := []) (lenOf pd_3 rfl) rfl (by show 2 * 0 + _ ≤ _; exact Nat.le_of_eq rfl) (hb hby d4_28) rfl e5 (by decide) (by decide) ?_
  rintro v6 T6 L6 X6 ⟨hcase6, rfl, hh6⟩
  have Nq6 := Fr.nil n0
  have N6 := Fr.app N1 Nq6
  rcases hcase6 with ⟨rfl, hcs6⟩ | ⟨rfl, hcs6⟩
  · show own_Go p e below _ T6 (mkF m 31 #[.val (.ref n), .val (.int lv), .val (.ref x1), .val (.int (2 : Int32)), .val (.int (0 : Int32)), .val (.ref u0)] [(.int (1 : Int32))])
    refine own_st (fun t_ k_ => XS.ifNo X6.here hx rfl (hb hby d4_31) rfl (by decide) k_) ?_
    show own_Go p e below _ T6 (mkF m 34 #[.val (.ref n), .val (.int lv), .val (.ref x1), .val (.int (2 : Int32)), .val (.int (0 : Int32)), .val (.ref u0)] [])
    refine own_st (fun t_ k_ => XS.aload X6.here hx rfl (hb hby d4_34) rfl rfl k_) ?_
    show own_Go p e below _ T6 (mkF m 36 #[.val (.ref n), .val (.int lv), .val (.ref x1), .val (.int (2 : Int32)), .val (.int (0 : Int32)), .val (.ref u0)] [(.ref u0)])
    have f17 := (Fl0.keep Kq1 nin0)
    obtain ⟨T18, X18, e18, st18⟩ := getF X6 hx hZ hown (host := "") (Or.inl (hw _ (List.mem_of_getElem? (i := 73) rfl))) Via.refl hh6 f17 (g := (mkF m 36 #[.val (.ref n), .val (.int lv), .val (.ref x1), .val (.int (2 : Int32)), .val (.int (0 : Int32)), .val (.ref u0)] [(.ref u0)])) rfl rfl (hb hby d4_36)
    refine own_st st18 ?_
    show own_Go p e below _ T18 (mkF m 39 #[.val (.ref n), .val (.int lv), .val (.ref x1), .val (.int (2 : Int32)), .val (.int (0 : Int32)), .val (.ref u0)] [(.int (3 : Int32))])
    refine own_st (fun t_ k_ => XS.iloadN X18.here hx rfl (hb hby d4_39) rfl k_) ?_
    show own_Go p e below _ T18 (mkF m 40 #[.val (.ref n), .val (.int lv), .val (.ref x1), .val (.int (2 : Int32)), .val (.int (0 : Int32)), .val (.ref u0)] [(.int lv), (.int (3 : Int32))])
    by_cases hv40_19 : (3 : Int32) = lv
    · refine own_st (fun t_ k_ => XS.icmpNo X18.here hx rfl (hb hby d4_40) rfl (teq hv40_19).2 k_) ?_
      show own_Go p e below _ T18 (mkF m 43 #[.val (.ref n), .val (.int lv), .val (.ref x1), .val (.int (2 : Int32)), .val (.int (0 : Int32)), .val (.ref u0)] [])
      refine own_st (fun t_ k_ => XS.aload X18.here hx rfl (hb hby d4_43) rfl rfl k_) ?_
      show own_Go p e below _ T18 (mkF m 45 #[.val (.ref n), .val (.int lv), .val (.ref x1), .val (.int (2 : Int32)), .val (.int (0 : Int32)), .val (.ref u0)] [(.ref u0)])
      refine own_retA X18 hx hlk Bd.returns rfl rfl (hb hby d4_45) ?_ (by decide) (by decide)
      show QF r h0 n0 _ T18.heap _
      rw [e18]
      exact ⟨by rw [hr, ← own_leaf1 cs lv u0 u1 hcs6 hv40_19], N6, K1⟩
    · refine own_st (fun t_ k_ => XS.icmpYes X18.here hx rfl (pc0 := 40) (pc' := 46) rfl (hb hby d4_40) rfl (feq hv40_19).2 (by decide) (by decide) k_) ?_
      show own_Go p e below _ T18 (mkF m 46 #[.val (.ref n), .val (.int lv), .val (.ref x1), .val (.int (2 : Int32)), .val (.int (0 : Int32)), .val (.ref u0)] [])
      refine own_st (fun t_ k_ => XS.iinc X18.here hx rfl (hb hby d4_46) rfl (l' := #[.val (.ref n), .val (.int lv), .val (.ref x1), .val (.int (2 : Int32)), .val (.int (1 : Int32)), .val (.ref u0)]) rfl k_) ?_
      show own_Go p e below _ T18 (mkF m 49 #[.val (.ref n), .val (.int lv), .val (.ref x1), .val (.int (2 : Int32)), .val (.int (1 : Int32)), .val (.ref u0)] [])
      refine own_st (fun t_ k_ => XS.goto X18.here hx rfl (pc0 := 49) (pc' := 10) rfl (hb hby d4_49) (by decide) (by decide) k_) ?_
      show own_Go p e below _ T18 (mkF m 10 #[.val (.ref n), .val (.int lv), .val (.ref x1), .val (.int (2 : Int32)), .val (.int (1 : Int32)), .val (.ref u0)] [])
      refine own_st (fun t_ k_ => XS.iload X18.here hx rfl (hb hby d4_10) rfl k_) ?_
      show own_Go p e below _ T18 (mkF m 12 #[.val (.ref n), .val (.int lv), .val (.ref x1), .val (.int (2 : Int32)), .val (.int (1 : Int32)), .val (.ref u0)] [(.int (1 : Int32))])
      refine own_st (fun t_ k_ => XS.iloadN X18.here hx rfl (hb hby d4_12) rfl k_) ?_
      show own_Go p e below _ T18 (mkF m 13 #[.val (.ref n), .val (.int lv), .val (.ref x1), .val (.int (2 : Int32)), .val (.int (1 : Int32)), .val (.ref u0)] [(.int (2 : Int32)), (.int (1 : Int32))])
      refine own_st (fun t_ k_ => XS.icmpNo X18.here hx rfl (hb hby d4_13) rfl (by decide) k_) ?_
      show own_Go p e below _ T18 (mkF m 16 #[.val (.ref n), .val (.int lv), .val (.ref x1), .val (.int (2 : Int32)), .val (.int (1 : Int32)), .val (.ref u0)] [])
      refine own_st (fun t_ k_ => XS.aloadN X18.here hx rfl (hb hby d4_16) rfl rfl k_) ?_
      show own_Go p e below _ T18 (mkF m 17 #[.val (.ref n), .val (.int lv), .val (.ref x1), .val (.int (2 : Int32)), .val (.int (1 : Int32)), .val (.ref u0)] [(.ref x1)])
      refine own_st (fun t_ k_ => XS.iload X18.here hx rfl (hb hby d4_17) rfl k_) ?_
      show own_Go p e below _ T18 (mkF m 19 #[.val (.ref n), .val (.int lv), .val (.ref x1), .val (.int (2 : Int32)), .val (.int (1 : Int32)), .val (.ref u0)] [(.int (1 : Int32)), (.ref x1)])
      obtain ⟨cl20, Ar20, q20, S20, N20', H20, G20⟩ := id Ax1
      have hin20 : ¬ ((1 : Int32) < 0 ∨ cl20.slots.size ≤ ((1 : Int32)).toNatClampNeg) := inb_of S20 ⟨by decide, by decide⟩
      refine own_st (fun t_ k_ => X18.aaload hx (j := (1 : Int32)) (v := (.ref u1)) (by rw [e18]; exact Ar20.1) (State.isArrayOf_alike hZ.alike Ar20.2.1) rfl Ar20.2.2 hin20 (Has.at H20 hin20 rfl) (g := (mkF m 19 #[.val (.ref n), .val (.int lv), .val (.ref x1), .val (.int (2 : Int32)), .val (.int (1 : Int32)), .val (.ref u0)] [(.int (1 : Int32)), (.ref x1)])) rfl rfl (hb hby d4_19) t_ k_) ?_
      show own_Go p e below _ T18 (mkF m 20 #[.val (.ref n), .val (.int lv), .val (.ref x1), .val (.int (2 : Int32)), .val (.int (1 : Int32)), .val (.ref u0)] [(.ref u1)])
      refine own_st (fun t_ k_ => XS.astore X18.here hx rfl (hb hby d4_20) rfl rfl (l' := #[.val (.ref n), .val (.int lv), .val (.ref x1), .val (.int (2 : Int32)), .val (.int (1 : Int32)), .val (.ref u1)]) rfl k_) ?_
      show own_Go p e below _ T18 (mkF m 22 #[.val (.ref n), .val (.int lv), .val (.ref x1), .val (.int (2 : Int32)), .val (.int (1 : Int32)), .val (.ref u1)] [])
      refine own_st (fun t_ k_ => XS.aload X18.here hx rfl (hb hby d4_22) rfl rfl k_) ?_
      show own_Go p e below _ T18 (mkF m 24 #[.val (.ref n), .val (.int lv), .val (.ref x1), .val (.int (2 : Int32)), .val (.int (1 : Int32)), .val (.ref u1)] [(.ref u1)])
      have f21 := (Fn1.keep Kq1 nin0)
      obtain ⟨T22, X22, e22, st22⟩ := getF X18 hx hZ hown (host := "") (Or.inl (hw _ (List.mem_of_getElem? (i := 70) rfl))) Via.refl e18 f21 (g := (mkF m 24 #[.val (.ref n), .val (.int lv), .val (.ref x1), .val (.int (2 : Int32)), .val (.int (1 : Int32)), .val (.ref u1)] [(.ref u1)])) rfl rfl (hb hby d4_24)
      refine own_st st22 ?_
      show own_Go p e below _ T22 (mkF m 27 #[.val (.ref n), .val (.int lv), .val (.ref x1), .val (.int (2 : Int32)), .val (.int (1 : Int32)), .val (.ref u1)] [(.ref m1)])
      refine own_st (fun t_ k_ => XS.aloadN X22.here hx rfl (hb hby d4_27) rfl rfl k_) ?_
      show own_Go p e below _ T22 (mkF m 28 #[.val (.ref n), .val (.int lv), .val (.ref x1), .val (.int (2 : Int32)), .val (.int (1 : Int32)), .val (.ref u1)] [(.ref n), (.ref m1)])
      have f24 := (VpB.keep Kq1 nin0)
      have f25 := (EpB.keep Kq1)
      have f26 := (CpB.keep Kq1 nin0)
      have f27 := (ApB.keep Kq1 nin0)
      obtain ⟨cq28, kq28, q28a, q28b, q28c⟩ := isOf hZ e22 f25
      refine own_callV X22 hx (y := (⟨"java/lang/String", "equals", "(Ljava/lang/Object;)Z"⟩ : MethodName)) (z := (⟨"java/lang/String", "equals", "(Ljava/lang/Object;)Z"⟩ : MethodName)) hown (mvT hZ (hw _ (List.mem_of_getElem? (i := 72) rfl))) (mvT hZ (hw _ (List.mem_of_getElem? (i := 38) rfl))) (notFace_of_selects (args := #[]) (mvT hZ (hw _ (List.mem_of_getElem? (i := 40) rfl)))) (mvT hZ (hw _ (List.mem_of_getElem? (i := 40) rfl))) (mvT hZ (hw _ (List.mem_of_getElem? (i := 39) rfl))) (by decide) (own_eqB (StrChars.Road.eqW (W := 0) hZ (own_wEq hw) (kI := 4) (hw _ (List.mem_of_getElem? (i := 6) rfl)) f25 f24 f26 f27 (StrChars.Road.codOf rfl (fun c hc => (hppB c hc).2)) (own_up hppB) l2pB f13 f12 f14 f15 (StrChars.Road.codOf rfl (fun c hc => (hppn c hc).2)) (own_up hppn) l2pn (Sta.ext f7.2 SC) hCS (by decide) (by decide))) q28a q28c (g := (mkF m 28 #[.val (.ref n), .val (.int lv), .val (.ref x1), .val (.int (2 : Int32)), .val (.int (1 : Int32)), .val (.ref u1)] [(.ref n), (.ref m1)])) rfl (by rw [hml]; rfl) (argsL := [(.ref n)]) (rest := []) (lenOf pd_3 rfl) rfl (by show 2 * 0 + _ ≤ _; exact Nat.le_of_eq rfl) (hb hby d4_28) rfl e22 (by decide) (by decide) ?_
      rintro v23 T23 L23 X23 ⟨hcase23, rfl, hh23⟩
      have Nq23 := Fr.nil n0
      have N23 := Fr.app N6 Nq23
      rcases hcase23 with ⟨rfl, hcs23⟩ | ⟨rfl, hcs23⟩
      · show own_Go p e below _ T23 (mkF m 31 #[.val (.ref n), .val (.int lv), .val (.ref x1), .val (.int (2 : Int32)), .val (.int (1 : Int32)), .val (.ref u1)] [(.int (1 : Int32))])
        exact absurd (hcs6.trans hcs23.symm) (by decide)
      · show own_Go p e below _ T23 (mkF m 31 #[.val (.ref n), .val (.int lv), .val (.ref x1), .val (.int (2 : Int32)), .val (.int (1 : Int32)), .val (.ref u1)] [(.int (0 : Int32))])
        refine own_st (fun t_ k_ => XS.ifYes X23.here hx rfl (pc0 := 31) (pc' := 46) rfl (hb hby d4_31) rfl (by decide) (by decide) (by decide) k_) ?_
        show own_Go p e below _ T23 (mkF m 46 #[.val (.ref n), .val (.int lv), .val (.ref x1), .val (.int (2 : Int32)), .val (.int (1 : Int32)), .val (.ref u1)] [])
        refine own_st (fun t_ k_ => XS.iinc X23.here hx rfl (hb hby d4_46) rfl (l' := #[.val (.ref n), .val (.int lv), .val (.ref x1), .val (.int (2 : Int32)), .val (.int (2 : Int32)), .val (.ref u1)]) rfl k_) ?_
        show own_Go p e below _ T23 (mkF m 49 #[.val (.ref n), .val (.int lv), .val (.ref x1), .val (.int (2 : Int32)), .val (.int (2 : Int32)), .val (.ref u1)] [])
        refine own_st (fun t_ k_ => XS.goto X23.here hx rfl (pc0 := 49) (pc' := 10) rfl (hb hby d4_49) (by decide) (by decide) k_) ?_
        show own_Go p e below _ T23 (mkF m 10 #[.val (.ref n), .val (.int lv), .val (.ref x1), .val (.int (2 : Int32)), .val (.int (2 : Int32)), .val (.ref u1)] [])
        refine own_st (fun t_ k_ => XS.iload X23.here hx rfl (hb hby d4_10) rfl k_) ?_
        show own_Go p e below _ T23 (mkF m 12 #[.val (.ref n), .val (.int lv), .val (.ref x1), .val (.int (2 : Int32)), .val (.int (2 : Int32)), .val (.ref u1)] [(.int (2 : Int32))])
        refine own_st (fun t_ k_ => XS.iloadN X23.here hx rfl (hb hby d4_12) rfl k_) ?_
        show own_Go p e below _ T23 (mkF m 13 #[.val (.ref n), .val (.int lv), .val (.ref x1), .val (.int (2 : Int32)), .val (.int (2 : Int32)), .val (.ref u1)] [(.int (2 : Int32)), (.int (2 : Int32))])
        refine own_st (fun t_ k_ => XS.icmpYes X23.here hx rfl (pc0 := 13) (pc' := 52) rfl (hb hby d4_13) rfl (by decide) (by decide) (by decide) k_) ?_
        show own_Go p e below _ T23 (mkF m 52 #[.val (.ref n), .val (.int lv), .val (.ref x1), .val (.int (2 : Int32)), .val (.int (2 : Int32)), .val (.ref u1)] [])
        refine own_st (fun t_ k_ => XS.aconstNull X23.here hx rfl (hb hby d4_52) k_) ?_
        show own_Go p e below _ T23 (mkF m 53 #[.val (.ref n), .val (.int lv), .val (.ref x1), .val (.int (2 : Int32)), .val (.int (2 : Int32)), .val (.ref u1)] [.null])
        refine own_retA X23 hx hlk Bd.returns rfl rfl (hb hby d4_53) ?_ (by decide) (by decide)
        show QF r h0 n0 _ T23.heap _
        rw [hh23]
        exact ⟨by rw [hr, ← own_leaf2 cs lv u0 u1 hcs6 hv40_19 hcs23], N23, K1⟩
  · show own_Go p e below _ T6 (mkF m 31 #[.val (.ref n), .val (.int lv), .val (.ref x1), .val (.int (2 : Int32)), .val (.int (0 : Int32)), .val (.ref u0)] [(.int (0 : Int32))])
    refine own_st (fun t_ k_ => XS.ifYes X6.here hx rfl (pc0 := 31) (pc' := 46) rfl (hb hby d4_31) rfl (by decide) (by decide) (by decide) k_) ?_
    show own_Go p e below _ T6 (mkF m 46 #[.val (.ref n), .val (.int lv), .val (.ref x1), .val (.int (2 : Int32)), .val (.int (0 : Int32)), .val (.ref u0)] [])
    refine own_st (fun t_ k_ => XS.iinc X6.here hx rfl (hb hby d4_46) rfl (l' := #[.val (.ref n), .val (.int lv), .val (.ref x1), .val (.int (2 : Int32)), .val (.int (1 : Int32)), .val (.ref u0)]) rfl k_) ?_
    show own_Go p e below _ T6 (mkF m 49 #[.val (.ref n), .val (.int lv), .val (.ref x1), .val (.int (2 : Int32)), .val (.int (1 : Int32)), .val (.ref u0)] [])
    refine own_st (fun t_ k_ => XS.goto X6.here hx rfl (pc0 := 49) (pc' := 10) rfl (hb hby d4_49) (by decide) (by decide) k_) ?_
    show own_Go p e below _ T6 (mkF m 10 #[.val (.ref n), .val (.int lv), .val (.ref x1), .val (.int (2 : Int32)), .val (.int (1 : Int32)), .val (.ref u0)] [])
    refine own_st (fun t_ k_ => XS.iload X6.here hx rfl (hb hby d4_10) rfl k_) ?_
    show own_Go p e below _ T6 (mkF m 12 #[.val (.ref n), .val (.int lv), .val (.ref x1), .val (.int (2 : Int32)), .val (.int (1 : Int32)), .val (.ref u0)] [(.int (1 : Int32))])
    refine own_st (fun t_ k_ => XS.iloadN X6.here hx rfl (hb hby d4_12) rfl k_) ?_
    show own_Go p e below _ T6 (mkF m 13 #[.val (.ref n), .val (.int lv), .val (.ref x1), .val (.int (2 : Int32)), .val (.int (1 : Int32)), .val (.ref u0)] [(.int (2 : Int32)), (.int (1 : Int32))])
    refine own_st (fun t_ k_ => XS.icmpNo X6.here hx rfl (hb hby d4_13) rfl (by decide) k_) ?_
    show own_Go p e below _ T6 (mkF m 16 #[.val (.ref n), .val (.int lv), .val (.ref x1), .val (.int (2 : Int32)), .val (.int (1 : Int32)), .val (.ref u0)] [])
    refine own_st (fun t_ k_ => XS.aloadN X6.here hx rfl (hb hby d4_16) rfl rfl k_) ?_
    show own_Go p e below _ T6 (mkF m 17 #[.val (.ref n), .val (.int lv), .val (.ref x1), .val (.int (2 : Int32)), .val (.int (1 : Int32)), .val (.ref u0)] [(.ref x1)])
    refine own_st (fun t_ k_ => XS.iload X6.here hx rfl (hb hby d4_17) rfl k_) ?_
    show own_Go p e below _ T6 (mkF m 19 #[.val (.ref n), .val (.int lv), .val (.ref x1), .val (.int (2 : Int32)), .val (.int (1 : Int32)), .val (.ref u0)] [(.int (1 : Int32)), (.ref x1)])
    obtain ⟨cl29, Ar29, q29, S29, N29', H29, G29⟩ := id Ax1
    have hin29 : ¬ ((1 : Int32) < 0 ∨ cl29.slots.size ≤ ((1 : Int32)).toNatClampNeg) := inb_of S29 ⟨by decide, by decide⟩
    refine own_st (fun t_ k_ => X6.aaload hx (j := (1 : Int32)) (v := (.ref u1)) (by rw [hh6]; exact Ar29.1) (State.isArrayOf_alike hZ.alike Ar29.2.1) rfl Ar29.2.2 hin29 (Has.at H29 hin29 rfl) (g := (mkF m 19 #[.val (.ref n), .val (.int lv), .val (.ref x1), .val (.int (2 : Int32)), .val (.int (1 : Int32)), .val (.ref u0)] [(.int (1 : Int32)), (.ref x1)])) rfl rfl (hb hby d4_19) t_ k_) ?_
    show own_Go p e below _ T6 (mkF m 20 #[.val (.ref n), .val (.int lv), .val (.ref x1), .val (.int (2 : Int32)), .val (.int (1 : Int32)), .val (.ref u0)] [(.ref u1)])
    refine own_st (fun t_ k_ => XS.astore X6.here hx rfl (hb hby d4_20) rfl rfl (l' := #[.val (.ref n), .val (.int lv), .val (.ref x1), .val (.int (2 : Int32)), .val (.int (1 : Int32)), .val (.ref u1)]) rfl k_) ?_
    show own_Go p e below _ T6 (mkF m 22 #[.val (.ref n), .val (.int lv), .val (.ref x1), .val (.int (2 : Int32)), .val (.int (1 : Int32)), .val (.ref u1)] [])
    refine own_st (fun t_ k_ => XS.aload X6.here hx rfl (hb hby d4_22) rfl rfl k_) ?_
    show own_Go p e below _ T6 (mkF m 24 #[.val (.ref n), .val (.int lv), .val (.ref x1), .val (.int (2 : Int32)), .val (.int (1 : Int32)), .val (.ref u1)] [(.ref u1)])
    have f30 := (Fn1.keep Kq1 nin0)
    obtain ⟨T31, X31, e31, st31⟩ := getF X6 hx hZ hown (host := "") (Or.inl (hw _ (List.mem_of_getElem? (i := 70) rfl))) Via.refl hh6 f30 (g := (mkF m 24 #[.val (.ref n), .val (.int lv), .val (.ref x1), .val (.int (2 : Int32)), .val (.int (1 : Int32)), .val (.ref u1)] [(.ref u1)])) rfl rfl (hb hby d4_24)
    refine own_st st31 ?_
    show own_Go p e below _ T31 (mkF m 27 #[.val (.ref n), .val (.int lv), .val (.ref x1), .val (.int (2 : Int32)), .val (.int (1 : Int32)), .val (.ref u1)] [(.ref m1)])
    refine own_st (fun t_ k_ => XS.aloadN X31.here hx rfl (hb hby d4_27) rfl rfl k_) ?_
    show own_Go p e below _ T31 (mkF m 28 #[.val (.ref n), .val (.int lv), .val (.ref x1), .val (.int (2 : Int32)), .val (.int (1 : Int32)), .val (.ref u1)] [(.ref n), (.ref m1)])
    have f33 := (VpB.keep Kq1 nin0)
    have f34 := (EpB.keep Kq1)
    have f35 := (CpB.keep Kq1 nin0)
    have f36 := (ApB.keep Kq1 nin0)
    obtain ⟨cq37, kq37, q37a, q37b, q37c⟩ := isOf hZ e31 f34
    refine own_callV X31 hx (y := (⟨"java/lang/String", "equals", "(Ljava/lang/Object;)Z"⟩ : MethodName)) (z := (⟨"java/lang/String", "equals", "(Ljava/lang/Object;)Z"⟩ : MethodName)) hown (mvT hZ (hw _ (List.mem_of_getElem? (i := 72) rfl))) (mvT hZ (hw _ (List.mem_of_getElem? (i := 38) rfl))) (notFace_of_selects (args := #[]) (mvT hZ (hw _ (List.mem_of_getElem? (i := 40) rfl)))) (mvT hZ (hw _ (List.mem_of_getElem? (i := 40) rfl))) (mvT hZ (hw _ (List.mem_of_getElem? (i := 39) rfl))) (by decide) (own_eqB (StrChars.Road.eqW (W := 0) hZ (own_wEq hw) (kI := 4) (hw _ (List.mem_of_getElem? (i := 6) rfl)) f34 f33 f35 f36 (StrChars.Road.codOf rfl (fun c hc => (hppB c hc).2)) (own_up hppB) l2pB f13 f12 f14 f15 (StrChars.Road.codOf rfl (fun c hc => (hppn c hc).2)) (own_up hppn) l2pn (Sta.ext f7.2 SC) hCS (by decide) (by decide))) q37a q37c (g := (mkF m 28 #[.val (.ref n), .val (.int lv), .val (.ref x1), .val (.int (2 : Int32)), .val (.int (1 : Int32)), .val (.ref u1)] [(.ref n), (.ref m1)])) rfl (by rw [hml]; rfl) (argsL := [(.ref n)]) (rest := []) (lenOf pd_3 rfl) rfl (by show 2 * 0 + _ ≤ _; exact Nat.le_of_eq rfl) (hb hby d4_28) rfl e31 (by decide) (by decide) ?_
    rintro v32 T32 L32 X32 ⟨hcase32, rfl, hh32⟩
    have Nq32 := Fr.nil n0
    have N32 := Fr.app N6 Nq32
    rcases hcase32 with ⟨rfl, hcs32⟩ | ⟨rfl, hcs32⟩
    · show own_Go p e below _ T32 (mkF m 31 #[.val (.ref n), .val (.int lv), .val (.ref x1), .val (.int (2 : Int32)), .val (.int (1 : Int32)), .val (.ref u1)] [(.int (1 : Int32))])
      refine own_st (fun t_ k_ => XS.ifNo X32.here hx rfl (hb hby d4_31) rfl (by decide) k_) ?_
      show own_Go p e below _ T32 (mkF m 34 #[.val (.ref n), .val (.int lv), .val (.ref x1), .val (.int (2 : Int32)), .val (.int (1 : Int32)), .val (.ref u1)] [])
      refine own_st (fun t_ k_ => XS.aload X32.here hx rfl (hb hby d4_34) rfl rfl k_) ?_
      show own_Go p e below _ T32 (mkF m 36 #[.val (.ref n), .val (.int lv), .val (.ref x1), .val (.int (2 : Int32)), .val (.int (1 : Int32)), .val (.ref u1)] [(.ref u1)])
      have f38 := (Fl1.keep Kq1 nin0)
      obtain ⟨T39, X39, e39, st39⟩ := getF X32 hx hZ hown (host := "") (Or.inl (hw _ (List.mem_of_getElem? (i := 73) rfl))) Via.refl hh32 f38 (g := (mkF m 36 #[.val (.ref n), .val (.int lv), .val (.ref x1), .val (.int (2 : Int32)), .val (.int (1 : Int32)), .val (.ref u1)] [(.ref u1)])) rfl rfl (hb hby d4_36)
      refine own_st st39 ?_
      show own_Go p e below _ T39 (mkF m 39 #[.val (.ref n), .val (.int lv), .val (.ref x1), .val (.int (2 : Int32)), .val (.int (1 : Int32)), .val (.ref u1)] [(.int (4 : Int32))])
      refine own_st (fun t_ k_ => XS.iloadN X39.here hx rfl (hb hby d4_39) rfl k_) ?_
      show own_Go p e below _ T39 (mkF m 40 #[.val (.ref n), .val (.int lv), .val (.ref x1), .val (.int (2 : Int32)), .val (.int (1 : Int32)), .val (.ref u1)] [(.int lv), (.int (4 : Int32))])
      by_cases hv40_40 : (4 : Int32) = lv
      · refine own_st (fun t_ k_ => XS.icmpNo X39.here hx rfl (hb hby d4_40) rfl (teq hv40_40).2 k_) ?_
        show own_Go p e below _ T39 (mkF m 43 #[.val (.ref n), .val (.int lv), .val (.ref x1), .val (.int (2 : Int32)), .val (.int (1 : Int32)), .val (.ref u1)] [])
        refine own_st (fun t_ k_ => XS.aload X39.here hx rfl (hb hby d4_43) rfl rfl k_) ?_
        show own_Go p e below _ T39 (mkF m 45 #[.val (.ref n), .val (.int lv), .val (.ref x1), .val (.int (2 : Int32)), .val (.int (1 : Int32)), .val (.ref u1)] [(.ref u1)])
        refine own_retA X39 hx hlk Bd.returns rfl rfl (hb hby d4_45) ?_ (by decide) (by decide)
        show QF r h0 n0 _ T39.heap _
        rw [e39]
        exact ⟨by rw [hr, ← own_leaf3 cs lv u0 u1 hcs6 hcs32 hv40_40], N32, K1⟩
      · refine own_st (fun t_ k_ => XS.icmpYes X39.here hx rfl (pc0 := 40) (pc' := 46) rfl (hb hby d4_40) rfl (feq hv40_40).2 (by decide) (by decide) k_) ?_
        show own_Go p e below _ T39 (mkF m 46 #[.val (.ref n), .val (.int lv), .val (.ref x1), .val (.int (2 : Int32)), .val (.int (1 : Int32)), .val (.ref u1)] [])
        refine own_st (fun t_ k_ => XS.iinc X39.here hx rfl (hb hby d4_46) rfl (l' := #[.val (.ref n), .val (.int lv), .val (.ref x1), .val (.int (2 : Int32)), .val (.int (2 : Int32)), .val (.ref u1)]) rfl k_) ?_
        show own_Go p e below _ T39 (mkF m 49 #[.val (.ref n), .val (.int lv), .val (.ref x1), .val (.int (2 : Int32)), .val (.int (2 : Int32)), .val (.ref u1)] [])
        refine own_st (fun t_ k_ => XS.goto X39.here hx rfl (pc0 := 49) (pc' := 10) rfl (hb hby d4_49) (by decide) (by decide) k_) ?_
        show own_Go p e below _ T39 (mkF m 10 #[.val (.ref n), .val (.int lv), .val (.ref x1), .val (.int (2 : Int32)), .val (.int (2 : Int32)), .val (.ref u1)] [])
        refine own_st (fun t_ k_ => XS.iload X39.here hx rfl (hb hby d4_10) rfl k_) ?_
        show own_Go p e below _ T39 (mkF m 12 #[.val (.ref n), .val (.int lv), .val (.ref x1), .val (.int (2 : Int32)), .val (.int (2 : Int32)), .val (.ref u1)] [(.int (2 : Int32))])
        refine own_st (fun t_ k_ => XS.iloadN X39.here hx rfl (hb hby d4_12) rfl k_) ?_
        show own_Go p e below _ T39 (mkF m 13 #[.val (.ref n), .val (.int lv), .val (.ref x1), .val (.int (2 : Int32)), .val (.int (2 : Int32)), .val (.ref u1)] [(.int (2 : Int32)), (.int (2 : Int32))])
        refine own_st (fun t_ k_ => XS.icmpYes X39.here hx rfl (pc0 := 13) (pc' := 52) rfl (hb hby d4_13) rfl (by decide) (by decide) (by decide) k_) ?_
        show own_Go p e below _ T39 (mkF m 52 #[.val (.ref n), .val (.int lv), .val (.ref x1), .val (.int (2 : Int32)), .val (.int (2 : Int32)), .val (.ref u1)] [])
        refine own_st (fun t_ k_ => XS.aconstNull X39.here hx rfl (hb hby d4_52) k_) ?_
        show own_Go p e below _ T39 (mkF m 53 #[.val (.ref n), .val (.int lv), .val (.ref x1), .val (.int (2 : Int32)), .val (.int (2 : Int32)), .val (.ref u1)] [.null])
        refine own_retA X39 hx hlk Bd.returns rfl rfl (hb hby d4_53) ?_ (by decide) (by decide)
        show QF r h0 n0 _ T39.heap _
        rw [e39]
        exact ⟨by rw [hr, ← own_leaf4 cs lv u0 u1 hcs6 hcs32 hv40_40], N32, K1⟩
    · show own_Go p e below _ T32 (mkF m 31 #[.val (.ref n), .val (.int lv), .val (.ref x1), .val (.int (2 : Int32)), .val (.int (1 : Int32)), .val (.ref u1)] [(.int (0 : Int32))])
      refine own_st (fun t_ k_ => XS.ifYes X32.here hx rfl (pc0 := 31) (pc' := 46) rfl (hb hby d4_31) rfl (by decide) (by decide) (by decide) k_) ?_
      show own_Go p e below _ T32 (mkF m 46 #[.val (.ref n), .val (.int lv), .val (.ref x1), .val (.int (2 : Int32)), .val (.int (1 : Int32)), .val (.ref u1)] [])
      refine own_st (fun t_ k_ => XS.iinc X32.here hx rfl (hb hby d4_46) rfl (l' := #[.val (.ref n), .val (.int lv), .val (.ref x1), .val (.int (2 : Int32)), .val (.int (2 : Int32)), .val (.ref u1)]) rfl k_) ?_
      show own_Go p e below _ T32 (mkF m 49 #[.val (.ref n), .val (.int lv), .val (.ref x1), .val (.int (2 : Int32)), .val (.int (2 : Int32)), .val (.ref u1)] [])
      refine own_st (fun t_ k_ => XS.goto X32.here hx rfl (pc0 := 49) (pc' := 10) rfl (hb hby d4_49) (by decide) (by decide) k_) ?_
      show own_Go p e below _ T32 (mkF m 10 #[.val (.ref n), .val (.int lv), .val (.ref x1), .val (.int (2 : Int32)), .val (.int (2 : Int32)), .val (.ref u1)] [])
      refine own_st (fun t_ k_ => XS.iload X32.here hx rfl (hb hby d4_10) rfl k_) ?_
      show own_Go p e below _ T32 (mkF m 12 #[.val (.ref n), .val (.int lv), .val (.ref x1), .val (.int (2 : Int32)), .val (.int (2 : Int32)), .val (.ref u1)] [(.int (2 : Int32))])
      refine own_st (fun t_ k_ => XS.iloadN X32.here hx rfl (hb hby d4_12) rfl k_) ?_
      show own_Go p e below _ T32 (mkF m 13 #[.val (.ref n), .val (.int lv), .val (.ref x1), .val (.int (2 : Int32)), .val (.int (2 : Int32)), .val (.ref u1)] [(.int (2 : Int32)), (.int (2 : Int32))])
      refine own_st (fun t_ k_ => XS.icmpYes X32.here hx rfl (pc0 := 13) (pc' := 52) rfl (hb hby d4_13) rfl (by decide) (by decide) (by decide) k_) ?_
      show own_Go p e below _ T32 (mkF m 52 #[.val (.ref n), .val (.int lv), .val (.ref x1), .val (.int (2 : Int32)), .val (.int (2 : Int32)), .val (.ref u1)] [])
      refine own_st (fun t_ k_ => XS.aconstNull X32.here hx rfl (hb hby d4_52) k_) ?_
      show own_Go p e below _ T32 (mkF m 53 #[.val (.ref n), .val (.int lv), .val (.ref x1), .val (.int (2 : Int32)), .val (.int (2 : Int32)), .val (.ref u1)] [.null])
      refine own_retA X32 hx hlk Bd.returns rfl rfl (hb hby d4_53) ?_ (by decide) (by decide)
      show QF r h0 n0 _ T32.heap _
      rw [hh32]
      exact ⟨by rw [hr, ← own_leaf5 cs lv u0 u1 hcs6 hcs32], N32, K1⟩
def Q0 (n0 : Nat) (v : Option Value) (h : Heap) (L : List Loc) : Prop := v = some (.int 1) ∧ Fr n0 L
theorem pd_4 : parseMethodDescriptor "(IJ)Ljava/lang/String;" = some ⟨[.int, .long], some (.object "java/lang/String")⟩ := by decide +kernel
theorem own_leaf6 (cs : List Int32) (lv : Int32) (u0 u1 : Addr) (hcs4 : cs = ([77, 81, 73, 115, 100, 112] : List Int32)) (hv44_12 : lv = (3 : Int32)) (hcs15 : ¬ cs = ([77, 81, 84, 84] : List Int32)) : (.ref u0) = own_find cs lv u0 u1 := by
  unfold own_find
  have ghcs15 : ¬ cs = ([77, 81, 84, 84] : List Int32) := fun q => hcs15 q
  subst hcs4
  subst hv44_12
  simp [ghcs15]
theorem pd_5 : parseMethodDescriptor "(Ljava/lang/String;I)Lcom/example/lean_pubsub/leanpubsub/codec/ProtocolVersion;" = some ⟨[(.object "java/lang/String"), .int], some (.object "com/example/lean_pubsub/leanpubsub/codec/ProtocolVersion")⟩ := by decide +kernel
theorem own_leaf7 (cs : List Int32) (lv : Int32) (u0 u1 : Addr) (hcs4 : cs = ([77, 81, 73, 115, 100, 112] : List Int32)) (hv44_12 : ¬ (lv = (3 : Int32))) (hcs72 : ¬ cs = ([77, 81, 84, 84] : List Int32)) : .null = own_find cs lv u0 u1 := by
  unfold own_find
  have ghv44_12 : ¬ lv = (3 : Int32) := fun q => hv44_12 q
  have ghcs72 : ¬ cs = ([77, 81, 84, 84] : List Int32) := fun q => hcs72 q
  subst hcs4
  simp [ghv44_12, ghcs72]
theorem own_leaf8 (cs : List Int32) (lv : Int32) (u0 u1 : Addr) (hcs4 : ¬ cs = ([77, 81, 73, 115, 100, 112] : List Int32)) (hcs129 : cs = ([77, 81, 84, 84] : List Int32)) (hv65_136 : lv = (4 : Int32)) : (.ref u1) = own_find cs lv u0 u1 := by
  unfold own_find
  have ghcs4 : ¬ cs = ([77, 81, 73, 115, 100, 112] : List Int32) := fun q => hcs4 q
  subst hcs129
  subst hv65_136
  simp [ghcs4]
theorem own_leaf9 (cs : List Int32) (lv : Int32) (u0 u1 : Addr) (hcs4 : ¬ cs = ([77, 81, 73, 115, 100, 112] : List Int32)) (hcs129 : cs = ([77, 81, 84, 84] : List Int32)) (hv65_136 : ¬ (lv = (4 : Int32))) : .null = own_find cs lv u0 u1 := by
  unfold own_find
  have ghcs4 : ¬ cs = ([77, 81, 73, 115, 100, 112] : List Int32) := fun q => hcs4 q
  have ghv65_136 : ¬ lv = (4 : Int32) := fun q => hv65_136 q
  subst hcs129
  simp [ghcs4, ghv65_136]
theorem own_leaf10 (cs : List Int32) (lv : Int32) (u0 u1 : Addr) (hcs4 : ¬ cs = ([77, 81, 73, 115, 100, 112] : List Int32)) (hcs129 : ¬ cs = ([77, 81, 84, 84] : List Int32)) : .null = own_find cs lv u0 u1 := by
  unfold own_find
  have ghcs4 : ¬ cs = ([77, 81, 73, 115, 100, 112] : List Int32) := fun q => hcs4 q
  have ghcs129 : ¬ cs = ([77, 81, 84, 84] : List Int32) := fun q => hcs129 q
  simp [ghcs4, ghcs129]
theorem ef_rm0 (m : MethodId) (x0 : Int32) (x1 : Int32) (x2 : Int64) : entryFrame m #[(.int x0), (.int x1), (.long x2)] maxLocals = mkF m 0 #[.val (.int x0), .val (.int x1), .val (.long x2), .second, .unset, .unset, .unset] [] := by first | (simp [entryFrame, mkF, argsToLocals, Value.category, maxLocals]; done) | rfl
set_option maxRecDepth 65536 in
set_option maxHeartbeats 40000000 in
theorem rm0 (l : Launch) (Z : State) (a0 : Array Value) (hw : ∀ d ∈ tables_1, d.before a0 Z = true) (ws : List Jvm.Cond) (a c0 : Int32) (d : Int64) (G : Int32) (sv u0 u1 m0 vq0 m1 vq1 : Addr) (ks kbA kbB : ClassId) (h0 : Heap) (n0 : Nat) (Z0 : n0 ≤ h0.size) (SC : Sta Z Z.heap "java/lang/String" "COMPACT_STRINGS" "Z" (.int G)) (hCS : ¬ G = 0) (O0 : Old Z n0 h0) (SV : Sta Z Z.heap "com/example/lean_pubsub/leanpubsub/codec/ProtocolVersion" "$VALUES" "[Lcom/example/lean_pubsub/leanpubsub/codec/ProtocolVersion;" (.ref sv)) (Av : Arv Z h0 sv ks (.object "com/example/lean_pubsub/leanpubsub/codec/ProtocolVersion") (2 : Int32) [(.ref u0), (.ref u1)] .null) (Ev : Exa Z h0 sv "[Lcom/example/lean_pubsub/leanpubsub/codec/ProtocolVersion;") (Eu0 : Exa Z h0 u0 "com/example/lean_pubsub/leanpubsub/codec/ProtocolVersion") (Eu1 : Exa Z h0 u1 "com/example/lean_pubsub/leanpubsub/codec/ProtocolVersion") (Fn0 : Fld Z h0 u0 "com/example/lean_pubsub/leanpubsub/codec/ProtocolVersion" "protocolName" "Ljava/lang/String;" (.ref m0)) (Fl0 : Fld Z h0 u0 "com/example/lean_pubsub/leanpubsub/codec/ProtocolVersion" "protocolLevel" "I" (.int (3 : Int32))) (Fn1 : Fld Z h0 u1 "com/example/lean_pubsub/leanpubsub/codec/ProtocolVersion" "protocolName" "Ljava/lang/String;" (.ref m1)) (Fl1 : Fld Z h0 u1 "com/example/lean_pubsub/leanpubsub/codec/ProtocolVersion" "protocolLevel" "I" (.int (4 : Int32))) (EpA : Exa Z h0 m0 "java/lang/String") (CpA : Fld Z h0 m0 "java/lang/String" "coder" "B" (.int 0)) (VpA : Fld Z h0 m0 "java/lang/String" "value" "[B" (.ref vq0)) (ApA : Arv Z h0 vq0 kbA .byte (Int32.ofNat (([77, 81, 73, 115, 100, 112] : List Int32)).length) (((([77, 81, 73, 115, 100, 112] : List Int32)).map (fun c => c.toInt8.toInt32)).map Value.int) (.int 0)) (hppA : ∀ c ∈ ([77, 81, 73, 115, 100, 112] : List Int32), ¬ c < 0 ∧ ¬ (255 : Int32) < c) (l2pA : (([77, 81, 73, 115, 100, 112] : List Int32)).length ≤ 4000) (EpB : Exa Z h0 m1 "java/lang/String") (CpB : Fld Z h0 m1 "java/lang/String" "coder" "B" (.int 0)) (VpB : Fld Z h0 m1 "java/lang/String" "value" "[B" (.ref vq1)) (ApB : Arv Z h0 vq1 kbB .byte (Int32.ofNat (([77, 81, 84, 84] : List Int32)).length) (((([77, 81, 84, 84] : List Int32)).map (fun c => c.toInt8.toInt32)).map Value.int) (.int 0)) (hppB : ∀ c ∈ ([77, 81, 84, 84] : List Int32), ¬ c < 0 ∧ ¬ (255 : Int32) < c) (l2pB : (([77, 81, 84, 84] : List Int32)).length ≤ 4000) (S0 : Sta Z Z.heap "com/example/lean_pubsub/leanpubsub/codec/ProtocolVersion" "MQTT_3_1" "Lcom/example/lean_pubsub/leanpubsub/codec/ProtocolVersion;" (.ref u0)) (S1 : Sta Z Z.heap "com/example/lean_pubsub/leanpubsub/codec/ProtocolVersion" "MQTT_3_1_1" "Lcom/example/lean_pubsub/leanpubsub/codec/ProtocolVersion;" (.ref u1)) :
    MetFree l x (head1 (Jvm.Cond.code x code maxLocals ret :: ws) room_1) (fun a_ U_ => a_ = #[(.int a), (.int c0), (.long d)] ∧ Z.Warmed39 U_.vm ∧ U_.heap = h0 ∧ CHv Z consts_1 U_.vm h0) (fun _ _ _ _ _ => True) (fun _ U_ o_ U'_ => ∃ v_ L_, o_ = .returned v_ ∧ Q0 n0 v_ U'_.heap L_ ∧ CHr Z consts_1 U_.vm U_.heap U'_.vm U'_.heap ∧ ReturnedEndW U_ o_ U'_ L_ 24 2176) := by
  refine MetFree.of_bodySF (plainFor_of_name pn_0) hisR ?_
  intro p e s m args below meth c s₁ Bd hml0 hP hK
  obtain ⟨rfl, hZ, hh, hC0⟩ := hP
  have hx := Bd.exec
  have hby := Bd.bytes
  have hml : c.maxLocals = 7 := hml0
  have hown : s.vm.findClass "com/example/lean_pubsub/leanpubsub/codec/ProtocolVersionFindPinLaw" = some m.cls := findClass_of_methodNamed Bd.named
  have hnm := (name_of_methodNamed Bd.named Bd.method).1
  have hlk := BodyLoose.notSynchronized Bd
  have X0 : Stand p l e room_1 (s.setVm s.vm) m #[(.int a), (.int c0), (.long d)] below meth c s₁ [] 0 0 := Stand.of_body Bd
  have e0 : s₁.heap = h0 := by rw [← hh, Bd.state]; rfl
  have N0 := Fr.nil n0
  have hEL := own_EL hw
  have B0 : own_Bk Z consts_1 s h0 s.vm h0 := own_Bk.start hC0
  refine own_entry (P := own_EndS Z consts_1 s (Q0 n0) 24 2176) (ef_rm0 m a c0 d) ?_
  show own_Go p e below _ s₁ (mkF m 0 #[.val (.int a), .val (.int c0), .val (.long d), .second, .unset, .unset, .unset] [])
  refine own_st (fun t_ k_ => XS.iloadN X0.here hx rfl (hb hby at_0) rfl k_) ?_
  show own_Go p e below _ s₁ (mkF m 1 #[.val (.int a), .val (.int c0), .val (.long d), .second, .unset, .unset, .unset] [(.int a)])
  refine own_st (fun t_ k_ => XS.lloadN X0.here hx rfl (hb hby at_1) rfl k_) ?_
  show own_Go p e below _ s₁ (mkF m 2 #[.val (.int a), .val (.int c0), .val (.long d), .second, .unset, .unset, .unset] [(.long d), (.int a)])
  refine own_callS X0 hx (y := (⟨"com/example/lean_pubsub/leanpubsub/codec/ProtocolVersionFindPinLaw", "name", "(IJ)Ljava/lang/String;"⟩ : MethodName)) hown (mvT hZ (hw _ (List.mem_of_getElem? (i := 0) rfl))) (mvT hZ (hw _ (List.mem_of_getElem? (i := 1) rfl))) (mvT hZ (hw _ (List.mem_of_getElem? (i := 2) rfl))) (mvT hZ (hw _ (List.mem_of_getElem? (i := 3) rfl))) (by decide) (backOf (W := 0) (rmNA l Z a0 hw [] a d G h0 n0 (Nat.le_trans Z0 (Keep.refl h0 []).1) SC hCS O0) hZ (hw _ (List.mem_of_getElem? (i := 3) rfl)) (hw _ (List.mem_of_getElem? (i := 2) rfl)) (by decide) (by decide)) (g := (mkF m 2 #[.val (.int a), .val (.int c0), .val (.long d), .second, .unset, .unset, .unset] [(.long d), (.int a)])) rfl (by rw [hml]; rfl) (argsL := [(.int a), (.long d)]) (rest := []) (lenOf pd_4 rfl) rfl (by show 2 * 0 + _ ≤ _; exact Nat.le_of_eq rfl) (hb hby at_2) rfl e0 (by decide) (by decide) ?_
  rintro v1 T1 L1 X1 ⟨cs, l2cs, x1, t1, kb1, rfl, Nq1, Kq1, gx1, g_x1, nt1, Ex1, Cq1, Vq1, Aq1, hp1⟩
  have N1 := Fr.app N0 Nq1
  have K1 : Keep h0 T1.heap [] := (Keep.refl h0 []).trans Kq1 all0
  have B1 := own_Bk.keep Kq1 sf0 B0
  have sz_x1 : h0.size ≤ x1 := Nat.le_trans (Keep.refl h0 []).1 gx1
  show own_Go p e below _ T1 (mkF m 5 #[.val (.int a), .val (.int c0), .val (.long d), .second, .unset, .unset, .unset] [(.ref x1)])
  refine own_st (fun t_ k_ => XS.astore X1.here hx rfl (hb hby at_5) rfl rfl (l' := #[.val (.int a), .val (.int c0), .val (.long d), .second, .val (.ref x1), .unset, .unset]) rfl k_) ?_
  show own_Go p e below _ T1 (mkF m 7 #[.val (.int a), .val (.int c0), .val (.long d), .second, .val (.ref x1), .unset, .unset] [])
  refine own_st (fun t_ k_ => XS.iloadN X1.here hx rfl (hb hby at_7) rfl k_) ?_
  show own_Go p e below _ T1 (mkF m 8 #[.val (.int a), .val (.int c0), .val (.long d), .second, .val (.ref x1), .unset, .unset] [(.int a)])
  refine own_st (fun t_ k_ => XS.iconst X1.here hx rfl (hb hby at_8) k_) ?_
  show own_Go p e below _ T1 (mkF m 9 #[.val (.int a), .val (.int c0), .val (.long d), .second, .val (.ref x1), .unset, .unset] [(.int (3 : Int32)), (.int a)])
  refine own_st (fun t_ k_ => XS.iushr X1.here hx rfl (hb hby at_9) rfl k_) ?_
  show own_Go p e below _ T1 (mkF m 10 #[.val (.int a), .val (.int c0), .val (.long d), .second, .val (.ref x1), .unset, .unset] [(.int ((a.toUInt32 >>> ((3 : Int32) &&& 31).toUInt32).toInt32))])
  refine own_st (fun t_ k_ => XS.iconst X1.here hx rfl (hb hby at_10) k_) ?_
  show own_Go p e below _ T1 (mkF m 11 #[.val (.int a), .val (.int c0), .val (.long d), .second, .val (.ref x1), .unset, .unset] [(.int (1 : Int32)), (.int ((a.toUInt32 >>> ((3 : Int32) &&& 31).toUInt32).toInt32))])
  refine own_st (fun t_ k_ => XS.iand X1.here hx rfl (hb hby at_11) rfl k_) ?_
  show own_Go p e below _ T1 (mkF m 12 #[.val (.int a), .val (.int c0), .val (.long d), .second, .val (.ref x1), .unset, .unset] [(.int (((a.toUInt32 >>> ((3 : Int32) &&& 31).toUInt32).toInt32) &&& (1 : Int32)))])
  refine own_join (α := Int32) (F := fun lv => True) (T' := T1) (g' := fun lv => (mkF m 26 #[.val (.int a), .val (.int c0), .val (.long d), .second, .val (.ref x1), .unset, .unset] [(.int lv)])) (fun lv h_lv => ?_) (fun J_lv => ?_)
  · show own_Go p e below _ T1 (mkF m 26 #[.val (.int a), .val (.int c0), .val (.long d), .second, .val (.ref x1), .unset, .unset] [(.int lv)])
    refine own_st (fun t_ k_ => XS.istore X1.here hx rfl (hb hby at_26) rfl (l' := #[.val (.int a), .val (.int c0), .val (.long d), .second, .val (.ref x1), .val (.int lv), .unset]) rfl k_) ?_
    show own_Go p e below _ T1 (mkF m 28 #[.val (.int a), .val (.int c0), .val (.long d), .second, .val (.ref x1), .val (.int lv), .unset] [])
    refine own_st (fun t_ k_ => XS.aconstNull X1.here hx rfl (hb hby at_28) k_) ?_
    show own_Go p e below _ T1 (mkF m 29 #[.val (.int a), .val (.int c0), .val (.long d), .second, .val (.ref x1), .val (.int lv), .unset] [.null])
    refine own_st (fun t_ k_ => XS.astore X1.here hx rfl (hb hby at_29) rfl rfl (l' := #[.val (.int a), .val (.int c0), .val (.long d), .second, .val (.ref x1), .val (.int lv), .val .null]) rfl k_) ?_
    show own_Go p e below _ T1 (mkF m 31 #[.val (.int a), .val (.int c0), .val (.long d), .second, .val (.ref x1), .val (.int lv), .val .null] [])
    refine own_st (fun t_ k_ => XS.aload X1.here hx rfl (hb hby at_31) rfl rfl k_) ?_
    show own_Go p e below _ T1 (mkF m 33 #[.val (.int a), .val (.int c0), .val (.long d), .second, .val (.ref x1), .val (.int lv), .val .null] [(.ref x1)])
    obtain ⟨la3, T3, h3, lb3, kb3, X3, e3, E3, hZ, hown, Ex3, Cd3, Vl3, Ar3, CH3, B3, ns3, st3⟩ := own_ldc X1 hx hZ hown (hw _ (List.mem_of_getElem? (i := 34) rfl)) (own_wS hw) rfl hEL (by decide) B1 (vs := ((([77, 81, 73, 115, 100, 112] : List Int32).map (fun c => c.toInt8.toInt32)).map Value.int)) (z := (6 : Int32)) ⟨by decide, rfl⟩ (by decide) rfl (g := (mkF m 33 #[.val (.int a), .val (.int c0), .val (.long d), .second, .val (.ref x1), .val (.int lv), .val .null] [(.ref x1)])) rfl (hb hby at_33) (n := 24) (by decide) (by decide) (by decide) (by decide)
    have hZ : Z.Warmed39 (s.setVm T3.vm).vm := hZ
    have hown : (s.setVm T3.vm).vm.findClass "com/example/lean_pubsub/leanpubsub/codec/ProtocolVersionFindPinLaw" = some m.cls := hown
    refine own_st st3 ?_
    have K3 : Keep h0 h3 [] := K1.ext E3
    have hpl3 : ∀ c ∈ ([77, 81, 73, 115, 100, 112] : List Int32), ¬ c < 0 ∧ ¬ (255 : Int32) < c := by decide
    show own_Go p e below _ T3 (mkF m 35 #[.val (.int a), .val (.int c0), .val (.long d), .second, .val (.ref x1), .val (.int lv), .val .null] [(.ref la3), (.ref x1)])
    have f5 := (O0.keep Kq1 all0)
    have f6 := (f5.ext E3)
    have f7 := (Fld.ext E3 Vq1)
    have f8 := (Exa.ext E3 Ex1)
    have f9 := (Fld.ext E3 Cq1)
    have f10 := (Aq1.ext E3)
    obtain ⟨cq11, kq11, q11a, q11b, q11c⟩ := isOf hZ e3 f8
    refine own_callV X3 hx (y := (⟨"java/lang/String", "equals", "(Ljava/lang/Object;)Z"⟩ : MethodName)) (z := (⟨"java/lang/String", "equals", "(Ljava/lang/Object;)Z"⟩ : MethodName)) hown (mvT hZ (hw _ (List.mem_of_getElem? (i := 37) rfl))) (mvT hZ (hw _ (List.mem_of_getElem? (i := 38) rfl))) (notFace_of_selects (args := #[]) (mvT hZ (hw _ (List.mem_of_getElem? (i := 40) rfl)))) (mvT hZ (hw _ (List.mem_of_getElem? (i := 40) rfl))) (mvT hZ (hw _ (List.mem_of_getElem? (i := 39) rfl))) (by decide) (own_eqB (StrChars.Road.eqW (W := 0) hZ (own_wEq hw) (kI := 4) (hw _ (List.mem_of_getElem? (i := 6) rfl)) f8 f7 f9 f10 (StrChars.Road.codOf rfl (fun c hc => (hp1 c hc).2)) (own_up hp1) l2cs Ex3 Vl3 Cd3 Ar3 (StrChars.Road.codOf rfl (fun c hc => (hpl3 c hc).2)) (own_up hpl3) (by decide) (Sta.ext f6.2 SC) hCS (by decide) (by decide))) q11a q11c (g := (mkF m 35 #[.val (.int a), .val (.int c0), .val (.long d), .second, .val (.ref x1), .val (.int lv), .val .null] [(.ref la3), (.ref x1)])) rfl (by rw [hml]; rfl) (argsL := [(.ref la3)]) (rest := []) (lenOf pd_3 rfl) rfl (by show 2 * 0 + _ ≤ _; exact Nat.le_of_eq rfl) (hb hby at_35) rfl e3 (by decide) (by decide) ?_
    rintro v4 T4 L4 X4 ⟨hcase4, rfl, hh4⟩
    have Nq4 := Fr.nil n0
    have N4 := Fr.app N1 Nq4
    rcases hcase4 with ⟨rfl, hcs4⟩ | ⟨rfl, hcs4⟩
    · show own_Go p e below _ T4 (mkF m 38 #[.val (.int a), .val (.int c0), .val (.long d), .second, .val (.ref x1), .val (.int lv), .val .null] [(.int (1 : Int32))])
      refine own_st (fun t_ k_ => XS.ifNo X4.here hx rfl (hb hby at_38) rfl (by decide) k_) ?_
      show own_Go p e below _ T4 (mkF m 41 #[.val (.int a), .val (.int c0), .val (.long d), .second, .val (.ref x1), .val (.int lv), .val .null] [])
      refine own_st (fun t_ k_ => XS.iload X4.here hx rfl (hb hby at_41) rfl k_) ?_
      show own_Go p e below _ T4 (mkF m 43 #[.val (.int a), .val (.int c0), .val (.long d), .second, .val (.ref x1), .val (.int lv), .val .null] [(.int lv)])
      refine own_st (fun t_ k_ => XS.iconst X4.here hx rfl (hb hby at_43) k_) ?_
      show own_Go p e below _ T4 (mkF m 44 #[.val (.int a), .val (.int c0), .val (.long d), .second, .val (.ref x1), .val (.int lv), .val .null] [(.int (3 : Int32)), (.int lv)])
      by_cases hv44_12 : lv = (3 : Int32)
      · refine own_st (fun t_ k_ => XS.icmpNo X4.here hx rfl (hb hby at_44) rfl (teq hv44_12).2 k_) ?_
        show own_Go p e below _ T4 (mkF m 47 #[.val (.int a), .val (.int c0), .val (.long d), .second, .val (.ref x1), .val (.int lv), .val .null] [])
        obtain ⟨T13, X13, e13, st13⟩ := getS2 X4 hx hZ hown (host := "") (Or.inl (hw _ (List.mem_of_getElem? (i := 47) rfl))) Via.refl hh4 (Sta.ext f6.2 S0) (g := (mkF m 47 #[.val (.int a), .val (.int c0), .val (.long d), .second, .val (.ref x1), .val (.int lv), .val .null] [])) rfl (hb hby at_47)
        refine own_st st13 ?_
        show own_Go p e below _ T13 (mkF m 50 #[.val (.int a), .val (.int c0), .val (.long d), .second, .val (.ref x1), .val (.int lv), .val .null] [(.ref u0)])
        refine own_st (fun t_ k_ => XS.astore X13.here hx rfl (hb hby at_50) rfl rfl (l' := #[.val (.int a), .val (.int c0), .val (.long d), .second, .val (.ref x1), .val (.int lv), .val (.ref u0)]) rfl k_) ?_
        show own_Go p e below _ T13 (mkF m 52 #[.val (.int a), .val (.int c0), .val (.long d), .second, .val (.ref x1), .val (.int lv), .val (.ref u0)] [])
        refine own_st (fun t_ k_ => XS.aload X13.here hx rfl (hb hby at_52) rfl rfl k_) ?_
        show own_Go p e below _ T13 (mkF m 54 #[.val (.int a), .val (.int c0), .val (.long d), .second, .val (.ref x1), .val (.int lv), .val (.ref u0)] [(.ref x1)])
        obtain ⟨la14, T14, h14, lb14, kb14, X14, e14, E14, hZ, hown, Ex14, Cd14, Vl14, Ar14, CH14, B14, ns14, st14⟩ := own_ldc X13 hx hZ hown (hw _ (List.mem_of_getElem? (i := 50) rfl)) (own_wS hw) e13 hEL (by decide) B3 (vs := ((([77, 81, 84, 84] : List Int32).map (fun c => c.toInt8.toInt32)).map Value.int)) (z := (4 : Int32)) ⟨by decide, rfl⟩ (by decide) rfl (g := (mkF m 54 #[.val (.int a), .val (.int c0), .val (.long d), .second, .val (.ref x1), .val (.int lv), .val (.ref u0)] [(.ref x1)])) rfl (hb hby at_54) (n := 16) (by decide) (by decide) (by decide) (by decide)
        have hZ : Z.Warmed39 (s.setVm T14.vm).vm := hZ
        have hown : (s.setVm T14.vm).vm.findClass "com/example/lean_pubsub/leanpubsub/codec/ProtocolVersionFindPinLaw" = some m.cls := hown
        refine own_st st14 ?_
        have K14 : Keep h0 h14 [] := K3.ext E14
        have hpl14 : ∀ c ∈ ([77, 81, 84, 84] : List Int32), ¬ c < 0 ∧ ¬ (255 : Int32) < c := by decide
        show own_Go p e below _ T14 (mkF m 56 #[.val (.int a), .val (.int c0), .val (.long d), .second, .val (.ref x1), .val (.int lv), .val (.ref u0)] [(.ref la14), (.ref x1)])
        have f16 := (f6.ext E14)
        have f17 := (Fld.ext E14 f7)
        have f18 := (Exa.ext E14 f8)
        have f19 := (Fld.ext E14 f9)
        have f20 := (f10.ext E14)
        obtain ⟨cq21, kq21, q21a, q21b, q21c⟩ := isOf hZ e14 f18
        refine own_callV X14 hx (y := (⟨"java/lang/String", "equals", "(Ljava/lang/Object;)Z"⟩ : MethodName)) (z := (⟨"java/lang/String", "equals", "(Ljava/lang/Object;)Z"⟩ : MethodName)) hown (mvT hZ (hw _ (List.mem_of_getElem? (i := 37) rfl))) (mvT hZ (hw _ (List.mem_of_getElem? (i := 38) rfl))) (notFace_of_selects (args := #[]) (mvT hZ (hw _ (List.mem_of_getElem? (i := 40) rfl)))) (mvT hZ (hw _ (List.mem_of_getElem? (i := 40) rfl))) (mvT hZ (hw _ (List.mem_of_getElem? (i := 39) rfl))) (by decide) (own_eqB (StrChars.Road.eqW (W := 0) hZ (own_wEq hw) (kI := 4) (hw _ (List.mem_of_getElem? (i := 6) rfl)) f18 f17 f19 f20 (StrChars.Road.codOf rfl (fun c hc => (hp1 c hc).2)) (own_up hp1) l2cs Ex14 Vl14 Cd14 Ar14 (StrChars.Road.codOf rfl (fun c hc => (hpl14 c hc).2)) (own_up hpl14) (by decide) (Sta.ext f16.2 SC) hCS (by decide) (by decide))) q21a q21c (g := (mkF m 56 #[.val (.int a), .val (.int c0), .val (.long d), .second, .val (.ref x1), .val (.int lv), .val (.ref u0)] [(.ref la14), (.ref x1)])) rfl (by rw [hml]; rfl) (argsL := [(.ref la14)]) (rest := []) (lenOf pd_3 rfl) rfl (by show 2 * 0 + _ ≤ _; exact Nat.le_of_eq rfl) (hb hby at_56) rfl e14 (by decide) (by decide) ?_
        rintro v15 T15 L15 X15 ⟨hcase15, rfl, hh15⟩
        have Nq15 := Fr.nil n0
        have N15 := Fr.app N4 Nq15
        rcases hcase15 with ⟨rfl, hcs15⟩ | ⟨rfl, hcs15⟩
        · show own_Go p e below _ T15 (mkF m 59 #[.val (.int a), .val (.int c0), .val (.long d), .second, .val (.ref x1), .val (.int lv), .val (.ref u0)] [(.int (1 : Int32))])
          exact absurd (hcs4.symm.trans hcs15) (by decide)
        · show own_Go p e below _ T15 (mkF m 59 #[.val (.int a), .val (.int c0), .val (.long d), .second, .val (.ref x1), .val (.int lv), .val (.ref u0)] [(.int (0 : Int32))])
          refine own_st (fun t_ k_ => XS.ifYes X15.here hx rfl (pc0 := 59) (pc' := 73) rfl (hb hby at_59) rfl (by decide) (by decide) (by decide) k_) ?_
          show own_Go p e below _ T15 (mkF m 73 #[.val (.int a), .val (.int c0), .val (.long d), .second, .val (.ref x1), .val (.int lv), .val (.ref u0)] [])
          refine own_st (fun t_ k_ => XS.aload X15.here hx rfl (hb hby at_73) rfl rfl k_) ?_
          show own_Go p e below _ T15 (mkF m 75 #[.val (.int a), .val (.int c0), .val (.long d), .second, .val (.ref x1), .val (.int lv), .val (.ref u0)] [(.ref x1)])
          refine own_st (fun t_ k_ => XS.iload X15.here hx rfl (hb hby at_75) rfl k_) ?_
          show own_Go p e below _ T15 (mkF m 77 #[.val (.int a), .val (.int c0), .val (.long d), .second, .val (.ref x1), .val (.int lv), .val (.ref u0)] [(.int lv), (.ref x1)])
          have f22 := (Av.keep Kq1 nin0)
          have f23 := (f22.ext E3)
          have f24 := (f23.ext E14)
          have f25 := (Ev.keep Kq1)
          have f26 := (Exa.ext E3 f25)
          have f27 := (Exa.ext E14 f26)
          have f28 := (Eu0.keep Kq1)
          have f29 := (Exa.ext E3 f28)
          have f30 := (Exa.ext E14 f29)
          have f31 := (Eu1.keep Kq1)
          have f32 := (Exa.ext E3 f31)
          have f33 := (Exa.ext E14 f32)
          have f34 := (Fn0.keep Kq1 nin0)
          have f35 := (Fld.ext E3 f34)
          have f36 := (Fld.ext E14 f35)
          have f37 := (Fl0.keep Kq1 nin0)
          have f38 := (Fld.ext E3 f37)
          have f39 := (Fld.ext E14 f38)
          have f40 := (Fn1.keep Kq1 nin0)
          have f41 := (Fld.ext E3 f40)
          have f42 := (Fld.ext E14 f41)
          have f43 := (Fl1.keep Kq1 nin0)
          have f44 := (Fld.ext E3 f43)
          have f45 := (Fld.ext E14 f44)
          have f46 := (EpA.keep Kq1)
          have f47 := (Exa.ext E3 f46)
          have f48 := (Exa.ext E14 f47)
          have f49 := (CpA.keep Kq1 nin0)
          have f50 := (Fld.ext E3 f49)
          have f51 := (Fld.ext E14 f50)
          have f52 := (VpA.keep Kq1 nin0)
          have f53 := (Fld.ext E3 f52)
          have f54 := (Fld.ext E14 f53)
          have f55 := (ApA.keep Kq1 nin0)
          have f56 := (f55.ext E3)
          have f57 := (f56.ext E14)
          have f58 := (EpB.keep Kq1)
          have f59 := (Exa.ext E3 f58)
          have f60 := (Exa.ext E14 f59)
          have f61 := (CpB.keep Kq1 nin0)
          have f62 := (Fld.ext E3 f61)
          have f63 := (Fld.ext E14 f62)
          have f64 := (VpB.keep Kq1 nin0)
          have f65 := (Fld.ext E3 f64)
          have f66 := (Fld.ext E14 f65)
          have f67 := (ApB.keep Kq1 nin0)
          have f68 := (f67.ext E3)
          have f69 := (f68.ext E14)
          refine own_callS X15 hx (y := (⟨"com/example/lean_pubsub/leanpubsub/codec/ProtocolVersion", "find", "(Ljava/lang/String;I)Lcom/example/lean_pubsub/leanpubsub/codec/ProtocolVersion;"⟩ : MethodName)) hown (mvT hZ (hw _ (List.mem_of_getElem? (i := 51) rfl))) (mvT hZ (hw _ (List.mem_of_getElem? (i := 52) rfl))) (mvT hZ (hw _ (List.mem_of_getElem? (i := 48) rfl))) (mvT hZ (hw _ (List.mem_of_getElem? (i := 53) rfl))) (by decide) (backOf (W := 0) (rmFI l Z a0 hw [] x1 t1 kb1 cs lv (.ref u0) G sv u0 u1 m0 vq0 m1 vq1 ks kbA kbB h14 n0 (Nat.le_trans Z0 K14.1) (Sta.ext f16.2 SV) f24 f27 f30 f33 f36 f39 f42 f45 f48 f51 f54 f57 hppA l2pA f60 f63 f66 f69 hppB l2pB f18 f19 f17 f20 hp1 l2cs SC hCS f16 (own_leaf6 cs lv u0 u1 hcs4 hv44_12 hcs15)) hZ (hw _ (List.mem_of_getElem? (i := 53) rfl)) (hw _ (List.mem_of_getElem? (i := 48) rfl)) (by decide) (by decide)) (g := (mkF m 77 #[.val (.int a), .val (.int c0), .val (.long d), .second, .val (.ref x1), .val (.int lv), .val (.ref u0)] [(.int lv), (.ref x1)])) rfl (by rw [hml]; rfl) (argsL := [(.ref x1), (.int lv)]) (rest := []) (lenOf pd_5 rfl) rfl (by show 2 * 0 + _ ≤ _; exact Nat.le_of_eq rfl) (hb hby at_77) rfl hh15 (by decide) (by decide) ?_
          rintro v70 T70 L70 X70 ⟨rfl, Nq70, Kq70⟩
          have N70 := Fr.app N15 Nq70
          have K70 : Keep h0 T70.heap [] := K14.trans Kq70 all0
          have B70 := own_Bk.keep Kq70 sf0 B14
          show own_Go p e below _ T70 (mkF m 80 #[.val (.int a), .val (.int c0), .val (.long d), .second, .val (.ref x1), .val (.int lv), .val (.ref u0)] [(.ref u0)])
          refine own_st (fun t_ k_ => XS.aload X70.here hx rfl (hb hby at_80) rfl rfl k_) ?_
          show own_Go p e below _ T70 (mkF m 82 #[.val (.int a), .val (.int c0), .val (.long d), .second, .val (.ref x1), .val (.int lv), .val (.ref u0)] [(.ref u0), (.ref u0)])
          refine own_st (fun t_ k_ => Jvm.RoadKit.acmp (g := (mkF m 82 #[.val (.int a), .val (.int c0), .val (.long d), .second, .val (.ref x1), .val (.int lv), .val (.ref u0)] [(.ref u0), (.ref u0)])) X70 hx rfl rfl rfl (pc0 := 82) (pc' := 85) (same := true) rfl (hb hby at_82) rfl (decide_eq_true rfl) (by decide) (by decide) k_) ?_
          show own_Go p e below _ T70 (mkF m 85 #[.val (.int a), .val (.int c0), .val (.long d), .second, .val (.ref x1), .val (.int lv), .val (.ref u0)] [])
          refine own_st (fun t_ k_ => XS.iconst X70.here hx rfl (hb hby at_85) k_) ?_
          show own_Go p e below _ T70 (mkF m 86 #[.val (.int a), .val (.int c0), .val (.long d), .second, .val (.ref x1), .val (.int lv), .val (.ref u0)] [(.int (1 : Int32))])
          refine own_st (fun t_ k_ => XS.goto X70.here hx rfl (pc0 := 86) (pc' := 90) rfl (hb hby at_86) (by decide) (by decide) k_) ?_
          show own_Go p e below _ T70 (mkF m 90 #[.val (.int a), .val (.int c0), .val (.long d), .second, .val (.ref x1), .val (.int lv), .val (.ref u0)] [(.int (1 : Int32))])
          refine own_retNS X70 hx hlk hZ hEL rfl hh B70 (t := .boolean) Bd.returns (by simp) (hb hby at_90) ?_ (by decide) (by decide)
          show Q0 n0 _ T70.heap _
          exact ⟨rfl, N70⟩
      · refine own_st (fun t_ k_ => XS.icmpYes X4.here hx rfl (pc0 := 44) (pc' := 52) rfl (hb hby at_44) rfl (feq hv44_12).2 (by decide) (by decide) k_) ?_
        show own_Go p e below _ T4 (mkF m 52 #[.val (.int a), .val (.int c0), .val (.long d), .second, .val (.ref x1), .val (.int lv), .val .null] [])
        refine own_st (fun t_ k_ => XS.aload X4.here hx rfl (hb hby at_52) rfl rfl k_) ?_
        show own_Go p e below _ T4 (mkF m 54 #[.val (.int a), .val (.int c0), .val (.long d), .second, .val (.ref x1), .val (.int lv), .val .null] [(.ref x1)])
        obtain ⟨la71, T71, h71, lb71, kb71, X71, e71, E71, hZ, hown, Ex71, Cd71, Vl71, Ar71, CH71, B71, ns71, st71⟩ := own_ldc X4 hx hZ hown (hw _ (List.mem_of_getElem? (i := 50) rfl)) (own_wS hw) hh4 hEL (by decide) B3 (vs := ((([77, 81, 84, 84] : List Int32).map (fun c => c.toInt8.toInt32)).map Value.int)) (z := (4 : Int32)) ⟨by decide, rfl⟩ (by decide) rfl (g := (mkF m 54 #[.val (.int a), .val (.int c0), .val (.long d), .second, .val (.ref x1), .val (.int lv), .val .null] [(.ref x1)])) rfl (hb hby at_54) (n := 16) (by decide) (by decide) (by decide) (by decide)
        have hZ : Z.Warmed39 (s.setVm T71.vm).vm := hZ
        have hown : (s.setVm T71.vm).vm.findClass "com/example/lean_pubsub/leanpubsub/codec/ProtocolVersionFindPinLaw" = some m.cls := hown
        refine own_st st71 ?_
        have K71 : Keep h0 h71 [] := K3.ext E71
        have hpl71 : ∀ c ∈ ([77, 81, 84, 84] : List Int32), ¬ c < 0 ∧ ¬ (255 : Int32) < c := by decide
        show own_Go p e below _ T71 (mkF m 56 #[.val (.int a), .val (.int c0), .val (.long d), .second, .val (.ref x1), .val (.int lv), .val .null] [(.ref la71), (.ref x1)])
        have f73 := (f6.ext E71)
        have f74 := (Fld.ext E71 f7)
        have f75 := (Exa.ext E71 f8)
        have f76 := (Fld.ext E71 f9)
        have f77 := (f10.ext E71)
        obtain ⟨cq78, kq78, q78a, q78b, q78c⟩ := isOf hZ e71 f75
        refine own_callV X71 hx (y := (⟨"java/lang/String", "equals", "(Ljava/lang/Object;)Z"⟩ : MethodName)) (z := (⟨"java/lang/String", "equals", "(Ljava/lang/Object;)Z"⟩ : MethodName)) hown (mvT hZ (hw _ (List.mem_of_getElem? (i := 37) rfl))) (mvT hZ (hw _ (List.mem_of_getElem? (i := 38) rfl))) (notFace_of_selects (args := #[]) (mvT hZ (hw _ (List.mem_of_getElem? (i := 40) rfl)))) (mvT hZ (hw _ (List.mem_of_getElem? (i := 40) rfl))) (mvT hZ (hw _ (List.mem_of_getElem? (i := 39) rfl))) (by decide) (own_eqB (StrChars.Road.eqW (W := 0) hZ (own_wEq hw) (kI := 4) (hw _ (List.mem_of_getElem? (i := 6) rfl)) f75 f74 f76 f77 (StrChars.Road.codOf rfl (fun c hc => (hp1 c hc).2)) (own_up hp1) l2cs Ex71 Vl71 Cd71 Ar71 (StrChars.Road.codOf rfl (fun c hc => (hpl71 c hc).2)) (own_up hpl71) (by decide) (Sta.ext f73.2 SC) hCS (by decide) (by decide))) q78a q78c (g := (mkF m 56 #[.val (.int a), .val (.int c0), .val (.long d), .second, .val (.ref x1), .val (.int lv), .val .null] [(.ref la71), (.ref x1)])) rfl (by rw [hml]; rfl) (argsL := [(.ref la71)]) (rest := []) (lenOf pd_3 rfl) rfl (by show 2 * 0 + _ ≤ _; exact Nat.le_of_eq rfl) (hb hby at_56) rfl e71 (by decide) (by decide) ?_
        rintro v72 T72 L72 X72 ⟨hcase72, rfl, hh72⟩
        have Nq72 := Fr.nil n0
        have N72 := Fr.app N4 Nq72
        rcases hcase72 with ⟨rfl, hcs72⟩ | ⟨rfl, hcs72⟩
        · show own_Go p e below _ T72 (mkF m 59 #[.val (.int a), .val (.int c0), .val (.long d), .second, .val (.ref x1), .val (.int lv), .val .null] [(.int (1 : Int32))])
          exact absurd (hcs4.symm.trans hcs72) (by decide)
        · show own_Go p e below _ T72 (mkF m 59 #[.val (.int a), .val (.int c0), .val (.long d), .second, .val (.ref x1), .val (.int lv), .val .null] [(.int (0 : Int32))])
          refine own_st (fun t_ k_ => XS.ifYes X72.here hx rfl (pc0 := 59) (pc' := 73) rfl (hb hby at_59) rfl (by decide) (by decide) (by decide) k_) ?_
          show own_Go p e below _ T72 (mkF m 73 #[.val (.int a), .val (.int c0), .val (.long d), .second, .val (.ref x1), .val (.int lv), .val .null] [])
          refine own_st (fun t_ k_ => XS.aload X72.here hx rfl (hb hby at_73) rfl rfl k_) ?_
          show own_Go p e below _ T72 (mkF m 75 #[.val (.int a), .val (.int c0), .val (.long d), .second, .val (.ref x1), .val (.int lv), .val .null] [(.ref x1)])
          refine own_st (fun t_ k_ => XS.iload X72.here hx rfl (hb hby at_75) rfl k_) ?_
          show own_Go p e below _ T72 (mkF m 77 #[.val (.int a), .val (.int c0), .val (.long d), .second, .val (.ref x1), .val (.int lv), .val .null] [(.int lv), (.ref x1)])
          have f79 := (Av.keep Kq1 nin0)
          have f80 := (f79.ext E3)
          have f81 := (f80.ext E71)
          have f82 := (Ev.keep Kq1)
          have f83 := (Exa.ext E3 f82)
          have f84 := (Exa.ext E71 f83)
          have f85 := (Eu0.keep Kq1)
          have f86 := (Exa.ext E3 f85)
          have f87 := (Exa.ext E71 f86)
          have f88 := (Eu1.keep Kq1)
          have f89 := (Exa.ext E3 f88)
          have f90 := (Exa.ext E71 f89)
          have f91 := (Fn0.keep Kq1 nin0)
          have f92 := (Fld.ext E3 f91)
          have f93 := (Fld.ext E71 f92)
          have f94 := (Fl0.keep Kq1 nin0)
          have f95 := (Fld.ext E3 f94)
          have f96 := (Fld.ext E71 f95)
          have f97 := (Fn1.keep Kq1 nin0)
          have f98 := (Fld.ext E3 f97)
          have f99 := (Fld.ext E71 f98)
          have f100 := (Fl1.keep Kq1 nin0)
          have f101 := (Fld.ext E3 f100)
          have f102 := (Fld.ext E71 f101)
          have f103 := (EpA.keep Kq1)
          have f104 := (Exa.ext E3 f103)
          have f105 := (Exa.ext E71 f104)
          have f106 := (CpA.keep Kq1 nin0)
          have f107 := (Fld.ext E3 f106)
          have f108 := (Fld.ext E71 f107)
          have f109 := (VpA.keep Kq1 nin0)
          have f110 := (Fld.ext E3 f109)
          have f111 := (Fld.ext E71 f110)
          have f112 := (ApA.keep Kq1 nin0)
          have f113 := (f112.ext E3)
          have f114 := (f113.ext E71)
          have f115 := (EpB.keep Kq1)
          have f116 := (Exa.ext E3 f115)
          have f117 := (Exa.ext E71 f116)
          have f118 := (CpB.keep Kq1 nin0)
          have f119 := (Fld.ext E3 f118)
          have f120 := (Fld.ext E71 f119)
          have f121 := (VpB.keep Kq1 nin0)
          have f122 := (Fld.ext E3 f121)
          have f123 := (Fld.ext E71 f122)
          have f124 := (ApB.keep Kq1 nin0)
          have f125 := (f124.ext E3)
          have f126 := (f125.ext E71)
          refine own_callS X72 hx (y := (⟨"com/example/lean_pubsub/leanpubsub/codec/ProtocolVersion", "find", "(Ljava/lang/String;I)Lcom/example/lean_pubsub/leanpubsub/codec/ProtocolVersion;"⟩ : MethodName)) hown (mvT hZ (hw _ (List.mem_of_getElem? (i := 51) rfl))) (mvT hZ (hw _ (List.mem_of_getElem? (i := 52) rfl))) (mvT hZ (hw _ (List.mem_of_getElem? (i := 48) rfl))) (mvT hZ (hw _ (List.mem_of_getElem? (i := 53) rfl))) (by decide) (backOf (W := 0) (rmFI l Z a0 hw [] x1 t1 kb1 cs lv .null G sv u0 u1 m0 vq0 m1 vq1 ks kbA kbB h71 n0 (Nat.le_trans Z0 K71.1) (Sta.ext f73.2 SV) f81 f84 f87 f90 f93 f96 f99 f102 f105 f108 f111 f114 hppA l2pA f117 f120 f123 f126 hppB l2pB f75 f76 f74 f77 hp1 l2cs SC hCS f73 (own_leaf7 cs lv u0 u1 hcs4 hv44_12 hcs72)) hZ (hw _ (List.mem_of_getElem? (i := 53) rfl)) (hw _ (List.mem_of_getElem? (i := 48) rfl)) (by decide) (by decide)) (g := (mkF m 77 #[.val (.int a), .val (.int c0), .val (.long d), .second, .val (.ref x1), .val (.int lv), .val .null] [(.int lv), (.ref x1)])) rfl (by rw [hml]; rfl) (argsL := [(.ref x1), (.int lv)]) (rest := []) (lenOf pd_5 rfl) rfl (by show 2 * 0 + _ ≤ _; exact Nat.le_of_eq rfl) (hb hby at_77) rfl hh72 (by decide) (by decide) ?_
          rintro v127 T127 L127 X127 ⟨rfl, Nq127, Kq127⟩
          have N127 := Fr.app N72 Nq127
          have K127 : Keep h0 T127.heap [] := K71.trans Kq127 all0
          have B127 := own_Bk.keep Kq127 sf0 B71
          show own_Go p e below _ T127 (mkF m 80 #[.val (.int a), .val (.int c0), .val (.long d), .second, .val (.ref x1), .val (.int lv), .val .null] [.null])
          refine own_st (fun t_ k_ => XS.aload X127.here hx rfl (hb hby at_80) rfl rfl k_) ?_
          show own_Go p e below _ T127 (mkF m 82 #[.val (.int a), .val (.int c0), .val (.long d), .second, .val (.ref x1), .val (.int lv), .val .null] [.null, .null])
          refine own_st (fun t_ k_ => Jvm.RoadKit.acmp (g := (mkF m 82 #[.val (.int a), .val (.int c0), .val (.long d), .second, .val (.ref x1), .val (.int lv), .val .null] [.null, .null])) X127 hx rfl rfl rfl (pc0 := 82) (pc' := 85) (same := true) rfl (hb hby at_82) rfl (decide_eq_true rfl) (by decide) (by decide) k_) ?_
          show own_Go p e below _ T127 (mkF m 85 #[.val (.int a), .val (.int c0), .val (.long d), .second, .val (.ref x1), .val (.int lv), .val .null] [])
          refine own_st (fun t_ k_ => XS.iconst X127.here hx rfl (hb hby at_85) k_) ?_
          show own_Go p e below _ T127 (mkF m 86 #[.val (.int a), .val (.int c0), .val (.long d), .second, .val (.ref x1), .val (.int lv), .val .null] [(.int (1 : Int32))])
          refine own_st (fun t_ k_ => XS.goto X127.here hx rfl (pc0 := 86) (pc' := 90) rfl (hb hby at_86) (by decide) (by decide) k_) ?_
          show own_Go p e below _ T127 (mkF m 90 #[.val (.int a), .val (.int c0), .val (.long d), .second, .val (.ref x1), .val (.int lv), .val .null] [(.int (1 : Int32))])
          refine own_retNS X127 hx hlk hZ hEL rfl hh B127 (t := .boolean) Bd.returns (by simp) (hb hby at_90) ?_ (by decide) (by decide)
          show Q0 n0 _ T127.heap _
          exact ⟨rfl, N127⟩
    · show own_Go p e below _ T4 (mkF m 38 #[.val (.int a), .val (.int c0), .val (.long d), .second, .val (.ref x1), .val (.int lv), .val .null] [(.int (0 : Int32))])
      refine own_st (fun t_ k_ => XS.ifYes X4.here hx rfl (pc0 := 38) (pc' := 52) rfl (hb hby at_38) rfl (by decide) (by decide) (by decide) k_) ?_
      show own_Go p e below _ T4 (mkF m 52 #[.val (.int a), .val (.int c0), .val (.long d), .second, .val (.ref x1), .val (.int lv), .val .null] [])
      refine own_st (fun t_ k_ => XS.aload X4.here hx rfl (hb hby at_52) rfl rfl k_) ?_
      show own_Go p e below _ T4 (mkF m 54 #[.val (.int a), .val (.int c0), .val (.long d), .second, .val (.ref x1), .val (.int lv), .val .null] [(.ref x1)])
      obtain ⟨la128, T128, h128, lb128, kb128, X128, e128, E128, hZ, hown, Ex128, Cd128, Vl128, Ar128, CH128, B128, ns128, st128⟩ := own_ldc X4 hx hZ hown (hw _ (List.mem_of_getElem? (i := 50) rfl)) (own_wS hw) hh4 hEL (by decide) B3 (vs := ((([77, 81, 84, 84] : List Int32).map (fun c => c.toInt8.toInt32)).map Value.int)) (z := (4 : Int32)) ⟨by decide, rfl⟩ (by decide) rfl (g := (mkF m 54 #[.val (.int a), .val (.int c0), .val (.long d), .second, .val (.ref x1), .val (.int lv), .val .null] [(.ref x1)])) rfl (hb hby at_54) (n := 16) (by decide) (by decide) (by decide) (by decide)
      have hZ : Z.Warmed39 (s.setVm T128.vm).vm := hZ
      have hown : (s.setVm T128.vm).vm.findClass "com/example/lean_pubsub/leanpubsub/codec/ProtocolVersionFindPinLaw" = some m.cls := hown
      refine own_st st128 ?_
      have K128 : Keep h0 h128 [] := K3.ext E128
      have hpl128 : ∀ c ∈ ([77, 81, 84, 84] : List Int32), ¬ c < 0 ∧ ¬ (255 : Int32) < c := by decide
      show own_Go p e below _ T128 (mkF m 56 #[.val (.int a), .val (.int c0), .val (.long d), .second, .val (.ref x1), .val (.int lv), .val .null] [(.ref la128), (.ref x1)])
      have f130 := (f6.ext E128)
      have f131 := (Fld.ext E128 f7)
      have f132 := (Exa.ext E128 f8)
      have f133 := (Fld.ext E128 f9)
      have f134 := (f10.ext E128)
      obtain ⟨cq135, kq135, q135a, q135b, q135c⟩ := isOf hZ e128 f132
      refine own_callV X128 hx (y := (⟨"java/lang/String", "equals", "(Ljava/lang/Object;)Z"⟩ : MethodName)) (z := (⟨"java/lang/String", "equals", "(Ljava/lang/Object;)Z"⟩ : MethodName)) hown (mvT hZ (hw _ (List.mem_of_getElem? (i := 37) rfl))) (mvT hZ (hw _ (List.mem_of_getElem? (i := 38) rfl))) (notFace_of_selects (args := #[]) (mvT hZ (hw _ (List.mem_of_getElem? (i := 40) rfl)))) (mvT hZ (hw _ (List.mem_of_getElem? (i := 40) rfl))) (mvT hZ (hw _ (List.mem_of_getElem? (i := 39) rfl))) (by decide) (own_eqB (StrChars.Road.eqW (W := 0) hZ (own_wEq hw) (kI := 4) (hw _ (List.mem_of_getElem? (i := 6) rfl)) f132 f131 f133 f134 (StrChars.Road.codOf rfl (fun c hc => (hp1 c hc).2)) (own_up hp1) l2cs Ex128 Vl128 Cd128 Ar128 (StrChars.Road.codOf rfl (fun c hc => (hpl128 c hc).2)) (own_up hpl128) (by decide) (Sta.ext f130.2 SC) hCS (by decide) (by decide))) q135a q135c (g := (mkF m 56 #[.val (.int a), .val (.int c0), .val (.long d), .second, .val (.ref x1), .val (.int lv), .val .null] [(.ref la128), (.ref x1)])) rfl (by rw [hml]; rfl) (argsL := [(.ref la128)]) (rest := []) (lenOf pd_3 rfl) rfl (by show 2 * 0 + _ ≤ _; exact Nat.le_of_eq rfl) (hb hby at_56) rfl e128 (by decide) (by decide) ?_
      rintro v129 T129 L129 X129 ⟨hcase129, rfl, hh129⟩
      have Nq129 := Fr.nil n0
      have N129 := Fr.app N4 Nq129
      rcases hcase129 with ⟨rfl, hcs129⟩ | ⟨rfl, hcs129⟩
      · show own_Go p e below _ T129 (mkF m 59 #[.val (.int a), .val (.int c0), .val (.long d), .second, .val (.ref x1), .val (.int lv), .val .null] [(.int (1 : Int32))])
        refine own_st (fun t_ k_ => XS.ifNo X129.here hx rfl (hb hby at_59) rfl (by decide) k_) ?_
        show own_Go p e below _ T129 (mkF m 62 #[.val (.int a), .val (.int c0), .val (.long d), .second, .val (.ref x1), .val (.int lv), .val .null] [])
        refine own_st (fun t_ k_ => XS.iload X129.here hx rfl (hb hby at_62) rfl k_) ?_
        show own_Go p e below _ T129 (mkF m 64 #[.val (.int a), .val (.int c0), .val (.long d), .second, .val (.ref x1), .val (.int lv), .val .null] [(.int lv)])
        refine own_st (fun t_ k_ => XS.iconst X129.here hx rfl (hb hby at_64) k_) ?_
        show own_Go p e below _ T129 (mkF m 65 #[.val (.int a), .val (.int c0), .val (.long d), .second, .val (.ref x1), .val (.int lv), .val .null] [(.int (4 : Int32)), (.int lv)])
        by_cases hv65_136 : lv = (4 : Int32)
        · refine own_st (fun t_ k_ => XS.icmpNo X129.here hx rfl (hb hby at_65) rfl (teq hv65_136).2 k_) ?_
          show own_Go p e below _ T129 (mkF m 68 #[.val (.int a), .val (.int c0), .val (.long d), .second, .val (.ref x1), .val (.int lv), .val .null] [])
          obtain ⟨T137, X137, e137, st137⟩ := getS2 X129 hx hZ hown (host := "") (Or.inl (hw _ (List.mem_of_getElem? (i := 79) rfl))) Via.refl hh129 (Sta.ext f130.2 S1) (g := (mkF m 68 #[.val (.int a), .val (.int c0), .val (.long d), .second, .val (.ref x1), .val (.int lv), .val .null] [])) rfl (hb hby at_68)
          refine own_st st137 ?_
          show own_Go p e below _ T137 (mkF m 71 #[.val (.int a), .val (.int c0), .val (.long d), .second, .val (.ref x1), .val (.int lv), .val .null] [(.ref u1)])
          refine own_st (fun t_ k_ => XS.astore X137.here hx rfl (hb hby at_71) rfl rfl (l' := #[.val (.int a), .val (.int c0), .val (.long d), .second, .val (.ref x1), .val (.int lv), .val (.ref u1)]) rfl k_) ?_
          show own_Go p e below _ T137 (mkF m 73 #[.val (.int a), .val (.int c0), .val (.long d), .second, .val (.ref x1), .val (.int lv), .val (.ref u1)] [])
          refine own_st (fun t_ k_ => XS.aload X137.here hx rfl (hb hby at_73) rfl rfl k_) ?_
          show own_Go p e below _ T137 (mkF m 75 #[.val (.int a), .val (.int c0), .val (.long d), .second, .val (.ref x1), .val (.int lv), .val (.ref u1)] [(.ref x1)])
          refine own_st (fun t_ k_ => XS.iload X137.here hx rfl (hb hby at_75) rfl k_) ?_
          show own_Go p e below _ T137 (mkF m 77 #[.val (.int a), .val (.int c0), .val (.long d), .second, .val (.ref x1), .val (.int lv), .val (.ref u1)] [(.int lv), (.ref x1)])
          have f138 := (Av.keep Kq1 nin0)
          have f139 := (f138.ext E3)
          have f140 := (f139.ext E128)
          have f141 := (Ev.keep Kq1)
          have f142 := (Exa.ext E3 f141)
          have f143 := (Exa.ext E128 f142)
          have f144 := (Eu0.keep Kq1)
          have f145 := (Exa.ext E3 f144)
          have f146 := (Exa.ext E128 f145)
          have f147 := (Eu1.keep Kq1)
          have f148 := (Exa.ext E3 f147)
          have f149 := (Exa.ext E128 f148)
          have f150 := (Fn0.keep Kq1 nin0)
          have f151 := (Fld.ext E3 f150)
          have f152 := (Fld.ext E128 f151)
          have f153 := (Fl0.keep Kq1 nin0)
          have f154 := (Fld.ext E3 f153)
          have f155 := (Fld.ext E128 f154)
          have f156 := (Fn1.keep Kq1 nin0)
          have f157 := (Fld.ext E3 f156)
          have f158 := (Fld.ext E128 f157)
          have f159 := (Fl1.keep Kq1 nin0)
          have f160 := (Fld.ext E3 f159)
          have f161 := (Fld.ext E128 f160)
          have f162 := (EpA.keep Kq1)
          have f163 := (Exa.ext E3 f162)
          have f164 := (Exa.ext E128 f163)
          have f165 := (CpA.keep Kq1 nin0)
          have f166 := (Fld.ext E3 f165)
          have f167 := (Fld.ext E128 f166)
          have f168 := (VpA.keep Kq1 nin0)
          have f169 := (Fld.ext E3 f168)
          have f170 := (Fld.ext E128 f169)
          have f171 := (ApA.keep Kq1 nin0)
          have f172 := (f171.ext E3)
          have f173 := (f172.ext E128)
          have f174 := (EpB.keep Kq1)
          have f175 := (Exa.ext E3 f174)
          have f176 := (Exa.ext E128 f175)
          have f177 := (CpB.keep Kq1 nin0)
          have f178 := (Fld.ext E3 f177)
          have f179 := (Fld.ext E128 f178)
          have f180 := (VpB.keep Kq1 nin0)
          have f181 := (Fld.ext E3 f180)
          have f182 := (Fld.ext E128 f181)
          have f183 := (ApB.keep Kq1 nin0)
          have f184 := (f183.ext E3)
          have f185 := (f184.ext E128)
          refine own_callS X137 hx (y := (⟨"com/example/lean_pubsub/leanpubsub/codec/ProtocolVersion", "find", "(Ljava/lang/String;I)Lcom/example/lean_pubsub/leanpubsub/codec/ProtocolVersion;"⟩ : MethodName)) hown (mvT hZ (hw _ (List.mem_of_getElem? (i := 51) rfl))) (mvT hZ (hw _ (List.mem_of_getElem? (i := 52) rfl))) (mvT hZ (hw _ (List.mem_of_getElem? (i := 48) rfl))) (mvT hZ (hw _ (List.mem_of_getElem? (i := 53) rfl))) (by decide) (backOf (W := 0) (rmFI l Z a0 hw [] x1 t1 kb1 cs lv (.ref u1) G sv u0 u1 m0 vq0 m1 vq1 ks kbA kbB h128 n0 (Nat.le_trans Z0 K128.1) (Sta.ext f130.2 SV) f140 f143 f146 f149 f152 f155 f158 f161 f164 f167 f170 f173 hppA l2pA f176 f179 f182 f185 hppB l2pB f132 f133 f131 f134 hp1 l2cs SC hCS f130 (own_leaf8 cs lv u0 u1 hcs4 hcs129 hv65_136)) hZ (hw _ (List.mem_of_getElem? (i := 53) rfl)) (hw _ (List.mem_of_getElem? (i := 48) rfl)) (by decide) (by decide)) (g := (mkF m 77 #[.val (.int a), .val (.int c0), .val (.long d), .second, .val (.ref x1), .val (.int lv), .val (.ref u1)] [(.int lv), (.ref x1)])) rfl (by rw [hml]; rfl) (argsL := [(.ref x1), (.int lv)]) (rest := []) (lenOf pd_5 rfl) rfl (by show 2 * 0 + _ ≤ _; exact Nat.le_of_eq rfl) (hb hby at_77) rfl e137 (by decide) (by decide) ?_
          rintro v186 T186 L186 X186 ⟨rfl, Nq186, Kq186⟩
          have N186 := Fr.app N129 Nq186
          have K186 : Keep h0 T186.heap [] := K128.trans Kq186 all0
          have B186 := own_Bk.keep Kq186 sf0 B128
          show own_Go p e below _ T186 (mkF m 80 #[.val (.int a), .val (.int c0), .val (.long d), .second, .val (.ref x1), .val (.int lv), .val (.ref u1)] [(.ref u1)])
          refine own_st (fun t_ k_ => XS.aload X186.here hx rfl (hb hby at_80) rfl rfl k_) ?_
          show own_Go p e below _ T186 (mkF m 82 #[.val (.int a), .val (.int c0), .val (.long d), .second, .val (.ref x1), .val (.int lv), .val (.ref u1)] [(.ref u1), (.ref u1)])
          refine own_st (fun t_ k_ => Jvm.RoadKit.acmp (g := (mkF m 82 #[.val (.int a), .val (.int c0), .val (.long d), .second, .val (.ref x1), .val (.int lv), .val (.ref u1)] [(.ref u1), (.ref u1)])) X186 hx rfl rfl rfl (pc0 := 82) (pc' := 85) (same := true) rfl (hb hby at_82) rfl (decide_eq_true rfl) (by decide) (by decide) k_) ?_
          show own_Go p e below _ T186 (mkF m 85 #[.val (.int a), .val (.int c0), .val (.long d), .second, .val (.ref x1), .val (.int lv), .val (.ref u1)] [])
          refine own_st (fun t_ k_ => XS.iconst X186.here hx rfl (hb hby at_85) k_) ?_
          show own_Go p e below _ T186 (mkF m 86 #[.val (.int a), .val (.int c0), .val (.long d), .second, .val (.ref x1), .val (.int lv), .val (.ref u1)] [(.int (1 : Int32))])
          refine own_st (fun t_ k_ => XS.goto X186.here hx rfl (pc0 := 86) (pc' := 90) rfl (hb hby at_86) (by decide) (by decide) k_) ?_
          show own_Go p e below _ T186 (mkF m 90 #[.val (.int a), .val (.int c0), .val (.long d), .second, .val (.ref x1), .val (.int lv), .val (.ref u1)] [(.int (1 : Int32))])
          refine own_retNS X186 hx hlk hZ hEL rfl hh B186 (t := .boolean) Bd.returns (by simp) (hb hby at_90) ?_ (by decide) (by decide)
          show Q0 n0 _ T186.heap _
          exact ⟨rfl, N186⟩
        · refine own_st (fun t_ k_ => XS.icmpYes X129.here hx rfl (pc0 := 65) (pc' := 73) rfl (hb hby at_65) rfl (feq hv65_136).2 (by decide) (by decide) k_) ?_
          show own_Go p e below _ T129 (mkF m 73 #[.val (.int a), .val (.int c0), .val (.long d), .second, .val (.ref x1), .val (.int lv), .val .null] [])
          refine own_st (fun t_ k_ => XS.aload X129.here hx rfl (hb hby at_73) rfl rfl k_) ?_
          show own_Go p e below _ T129 (mkF m 75 #[.val (.int a), .val (.int c0), .val (.long d), .second, .val (.ref x1), .val (.int lv), .val .null] [(.ref x1)])
          refine own_st (fun t_ k_ => XS.iload X129.here hx rfl (hb hby at_75) rfl k_) ?_
          show own_Go p e below _ T129 (mkF m 77 #[.val (.int a), .val (.int c0), .val (.long d), .second, .val (.ref x1), .val (.int lv), .val .null] [(.int lv), (.ref x1)])
          have f187 := (Av.keep Kq1 nin0)
          have f188 := (f187.ext E3)
          have f189 := (f188.ext E128)
          have f190 := (Ev.keep Kq1)
          have f191 := (Exa.ext E3 f190)
          have f192 := (Exa.ext E128 f191)
          have f193 := (Eu0.keep Kq1)
          have f194 := (Exa.ext E3 f193)
          have f195 := (Exa.ext E128 f194)
          have f196 := (Eu1.keep Kq1)
          have f197 := (Exa.ext E3 f196)
          have f198 := (Exa.ext E128 f197)
          have f199 := (Fn0.keep Kq1 nin0)
          have f200 := (Fld.ext E3 f199)
          have f201 := (Fld.ext E128 f200)
          have f202 := (Fl0.keep Kq1 nin0)
          have f203 := (Fld.ext E3 f202)
          have f204 := (Fld.ext E128 f203)
          have f205 := (Fn1.keep Kq1 nin0)
          have f206 := (Fld.ext E3 f205)
          have f207 := (Fld.ext E128 f206)
          have f208 := (Fl1.keep Kq1 nin0)
          have f209 := (Fld.ext E3 f208)
          have f210 := (Fld.ext E128 f209)
          have f211 := (EpA.keep Kq1)
          have f212 := (Exa.ext E3 f211)
          have f213 := (Exa.ext E128 f212)
          have f214 := (CpA.keep Kq1 nin0)
          have f215 := (Fld.ext E3 f214)
          have f216 := (Fld.ext E128 f215)
          have f217 := (VpA.keep Kq1 nin0)
          have f218 := (Fld.ext E3 f217)
          have f219 := (Fld.ext E128 f218)
          have f220 := (ApA.keep Kq1 nin0)
          have f221 := (f220.ext E3)
          have f222 := (f221.ext E128)
          have f223 := (EpB.keep Kq1)
          have f224 := (Exa.ext E3 f223)
          have f225 := (Exa.ext E128 f224)
          have f226 := (CpB.keep Kq1 nin0)
          have f227 := (Fld.ext E3 f226)
          have f228 := (Fld.ext E128 f227)
          have f229 := (VpB.keep Kq1 nin0)
          have f230 := (Fld.ext E3 f229)
          have f231 := (Fld.ext E128 f230)
          have f232 := (ApB.keep Kq1 nin0)
          have f233 := (f232.ext E3)
          have f234 := (f233.ext E128)
          refine own_callS X129 hx (y := (⟨"com/example/lean_pubsub/leanpubsub/codec/ProtocolVersion", "find", "(Ljava/lang/String;I)Lcom/example/lean_pubsub/leanpubsub/codec/ProtocolVersion;"⟩ : MethodName)) hown (mvT hZ (hw _ (List.mem_of_getElem? (i := 51) rfl))) (mvT hZ (hw _ (List.mem_of_getElem? (i := 52) rfl))) (mvT hZ (hw _ (List.mem_of_getElem? (i := 48) rfl))) (mvT hZ (hw _ (List.mem_of_getElem? (i := 53) rfl))) (by decide) (backOf (W := 0) (rmFI l Z a0 hw [] x1 t1 kb1 cs lv .null G sv u0 u1 m0 vq0 m1 vq1 ks kbA kbB h128 n0 (Nat.le_trans Z0 K128.1) (Sta.ext f130.2 SV) f189 f192 f195 f198 f201 f204 f207 f210 f213 f216 f219 f222 hppA l2pA f225 f228 f231 f234 hppB l2pB f132 f133 f131 f134 hp1 l2cs SC hCS f130 (own_leaf9 cs lv u0 u1 hcs4 hcs129 hv65_136)) hZ (hw _ (List.mem_of_getElem? (i := 53) rfl)) (hw _ (List.mem_of_getElem? (i := 48) rfl)) (by decide) (by decide)) (g := (mkF m 77 #[.val (.int a), .val (.int c0), .val (.long d), .second, .val (.ref x1), .val (.int lv), .val .null] [(.int lv), (.ref x1)])) rfl (by rw [hml]; rfl) (argsL := [(.ref x1), (.int lv)]) (rest := []) (lenOf pd_5 rfl) rfl (by show 2 * 0 + _ ≤ _; exact Nat.le_of_eq rfl) (hb hby at_77) rfl hh129 (by decide) (by decide) ?_
          rintro v235 T235 L235 X235 ⟨rfl, Nq235, Kq235⟩
          have N235 := Fr.app N129 Nq235
          have K235 : Keep h0 T235.heap [] := K128.trans Kq235 all0
          have B235 := own_Bk.keep Kq235 sf0 B128
          show own_Go p e below _ T235 (mkF m 80 #[.val (.int a), .val (.int c0), .val (.long d), .second, .val (.ref x1), .val (.int lv), .val .null] [.null])
          refine own_st (fun t_ k_ => XS.aload X235.here hx rfl (hb hby at_80) rfl rfl k_) ?_
          show own_Go p e below _ T235 (mkF m 82 #[.val (.int a), .val (.int c0), .val (.long d), .second, .val (.ref x1), .val (.int lv), .val .null] [.null, .null])
          refine own_st (fun t_ k_ => Jvm.RoadKit.acmp (g := (mkF m 82 #[.val (.int a), .val (.int c0), .val (.long d), .second, .val (.ref x1), .val (.int lv), .val .null] [.null, .null])) X235 hx rfl rfl rfl (pc0 := 82) (pc' := 85) (same := true) rfl (hb hby at_82) rfl (decide_eq_true rfl) (by decide) (by decide) k_) ?_
          show own_Go p e below _ T235 (mkF m 85 #[.val (.int a), .val (.int c0), .val (.long d), .second, .val (.ref x1), .val (.int lv), .val .null] [])
          refine own_st (fun t_ k_ => XS.iconst X235.here hx rfl (hb hby at_85) k_) ?_
          show own_Go p e below _ T235 (mkF m 86 #[.val (.int a), .val (.int c0), .val (.long d), .second, .val (.ref x1), .val (.int lv), .val .null] [(.int (1 : Int32))])
          refine own_st (fun t_ k_ => XS.goto X235.here hx rfl (pc0 := 86) (pc' := 90) rfl (hb hby at_86) (by decide) (by decide) k_) ?_
          show own_Go p e below _ T235 (mkF m 90 #[.val (.int a), .val (.int c0), .val (.long d), .second, .val (.ref x1), .val (.int lv), .val .null] [(.int (1 : Int32))])
          refine own_retNS X235 hx hlk hZ hEL rfl hh B235 (t := .boolean) Bd.returns (by simp) (hb hby at_90) ?_ (by decide) (by decide)
          show Q0 n0 _ T235.heap _
          exact ⟨rfl, N235⟩
      · show own_Go p e below _ T129 (mkF m 59 #[.val (.int a), .val (.int c0), .val (.long d), .second, .val (.ref x1), .val (.int lv), .val .null] [(.int (0 : Int32))])
        refine own_st (fun t_ k_ => XS.ifYes X129.here hx rfl (pc0 := 59) (pc' := 73) rfl (hb hby at_59) rfl (by decide) (by decide) (by decide) k_) ?_
        show own_Go p e below _ T129 (mkF m 73 #[.val (.int a), .val (.int c0), .val (.long d), .second, .val (.ref x1), .val (.int lv), .val .null] [])
        refine own_st (fun t_ k_ => XS.aload X129.here hx rfl (hb hby at_73) rfl rfl k_) ?_
        show own_Go p e below _ T129 (mkF m 75 #[.val (.int a), .val (.int c0), .val (.long d), .second, .val (.ref x1), .val (.int lv), .val .null] [(.ref x1)])
        refine own_st (fun t_ k_ => XS.iload X129.here hx rfl (hb hby at_75) rfl k_) ?_
        show own_Go p e below _ T129 (mkF m 77 #[.val (.int a), .val (.int c0), .val (.long d), .second, .val (.ref x1), .val (.int lv), .val .null] [(.int lv), (.ref x1)])
        have f236 := (Av.keep Kq1 nin0)
        have f237 := (f236.ext E3)
        have f238 := (f237.ext E128)
        have f239 := (Ev.keep Kq1)
        have f240 := (Exa.ext E3 f239)
        have f241 := (Exa.ext E128 f240)
        have f242 := (Eu0.keep Kq1)
        have f243 := (Exa.ext E3 f242)
        have f244 := (Exa.ext E128 f243)
        have f245 := (Eu1.keep Kq1)
        have f246 := (Exa.ext E3 f245)
        have f247 := (Exa.ext E128 f246)
        have f248 := (Fn0.keep Kq1 nin0)
        have f249 := (Fld.ext E3 f248)
        have f250 := (Fld.ext E128 f249)
        have f251 := (Fl0.keep Kq1 nin0)
        have f252 := (Fld.ext E3 f251)
        have f253 := (Fld.ext E128 f252)
        have f254 := (Fn1.keep Kq1 nin0)
        have f255 := (Fld.ext E3 f254)
        have f256 := (Fld.ext E128 f255)
        have f257 := (Fl1.keep Kq1 nin0)
        have f258 := (Fld.ext E3 f257)
        have f259 := (Fld.ext E128 f258)
        have f260 := (EpA.keep Kq1)
        have f261 := (Exa.ext E3 f260)
        have f262 := (Exa.ext E128 f261)
        have f263 := (CpA.keep Kq1 nin0)
        have f264 := (Fld.ext E3 f263)
        have f265 := (Fld.ext E128 f264)
        have f266 := (VpA.keep Kq1 nin0)
        have f267 := (Fld.ext E3 f266)
        have f268 := (Fld.ext E128 f267)
        have f269 := (ApA.keep Kq1 nin0)
        have f270 := (f269.ext E3)
        have f271 := (f270.ext E128)
        have f272 := (EpB.keep Kq1)
        have f273 := (Exa.ext E3 f272)
        have f274 := (Exa.ext E128 f273)
        have f275 := (CpB.keep Kq1 nin0)
        have f276 := (Fld.ext E3 f275)
        have f277 := (Fld.ext E128 f276)
        have f278 := (VpB.keep Kq1 nin0)
        have f279 := (Fld.ext E3 f278)
        have f280 := (Fld.ext E128 f279)
        have f281 := (ApB.keep Kq1 nin0)
        have f282 := (f281.ext E3)
        have f283 := (f282.ext E128)
        refine own_callS X129 hx (y := (⟨"com/example/lean_pubsub/leanpubsub/codec/ProtocolVersion", "find", "(Ljava/lang/String;I)Lcom/example/lean_pubsub/leanpubsub/codec/ProtocolVersion;"⟩ : MethodName)) hown (mvT hZ (hw _ (List.mem_of_getElem? (i := 51) rfl))) (mvT hZ (hw _ (List.mem_of_getElem? (i := 52) rfl))) (mvT hZ (hw _ (List.mem_of_getElem? (i := 48) rfl))) (mvT hZ (hw _ (List.mem_of_getElem? (i := 53) rfl))) (by decide) (backOf (W := 0) (rmFI l Z a0 hw [] x1 t1 kb1 cs lv .null G sv u0 u1 m0 vq0 m1 vq1 ks kbA kbB h128 n0 (Nat.le_trans Z0 K128.1) (Sta.ext f130.2 SV) f238 f241 f244 f247 f250 f253 f256 f259 f262 f265 f268 f271 hppA l2pA f274 f277 f280 f283 hppB l2pB f132 f133 f131 f134 hp1 l2cs SC hCS f130 (own_leaf10 cs lv u0 u1 hcs4 hcs129)) hZ (hw _ (List.mem_of_getElem? (i := 53) rfl)) (hw _ (List.mem_of_getElem? (i := 48) rfl)) (by decide) (by decide)) (g := (mkF m 77 #[.val (.int a), .val (.int c0), .val (.long d), .second, .val (.ref x1), .val (.int lv), .val .null] [(.int lv), (.ref x1)])) rfl (by rw [hml]; rfl) (argsL := [(.ref x1), (.int lv)]) (rest := []) (lenOf pd_5 rfl) rfl (by show 2 * 0 + _ ≤ _; exact Nat.le_of_eq rfl) (hb hby at_77) rfl hh129 (by decide) (by decide) ?_
        rintro v284 T284 L284 X284 ⟨rfl, Nq284, Kq284⟩
        have N284 := Fr.app N129 Nq284
        have K284 : Keep h0 T284.heap [] := K128.trans Kq284 all0
        have B284 := own_Bk.keep Kq284 sf0 B128
        show own_Go p e below _ T284 (mkF m 80 #[.val (.int a), .val (.int c0), .val (.long d), .second, .val (.ref x1), .val (.int lv), .val .null] [.null])
        refine own_st (fun t_ k_ => XS.aload X284.here hx rfl (hb hby at_80) rfl rfl k_) ?_
        show own_Go p e below _ T284 (mkF m 82 #[.val (.int a), .val (.int c0), .val (.long d), .second, .val (.ref x1), .val (.int lv), .val .null] [.null, .null])
        refine own_st (fun t_ k_ => Jvm.RoadKit.acmp (g := (mkF m 82 #[.val (.int a), .val (.int c0), .val (.long d), .second, .val (.ref x1), .val (.int lv), .val .null] [.null, .null])) X284 hx rfl rfl rfl (pc0 := 82) (pc' := 85) (same := true) rfl (hb hby at_82) rfl (decide_eq_true rfl) (by decide) (by decide) k_) ?_
        show own_Go p e below _ T284 (mkF m 85 #[.val (.int a), .val (.int c0), .val (.long d), .second, .val (.ref x1), .val (.int lv), .val .null] [])
        refine own_st (fun t_ k_ => XS.iconst X284.here hx rfl (hb hby at_85) k_) ?_
        show own_Go p e below _ T284 (mkF m 86 #[.val (.int a), .val (.int c0), .val (.long d), .second, .val (.ref x1), .val (.int lv), .val .null] [(.int (1 : Int32))])
        refine own_st (fun t_ k_ => XS.goto X284.here hx rfl (pc0 := 86) (pc' := 90) rfl (hb hby at_86) (by decide) (by decide) k_) ?_
        show own_Go p e below _ T284 (mkF m 90 #[.val (.int a), .val (.int c0), .val (.long d), .second, .val (.ref x1), .val (.int lv), .val .null] [(.int (1 : Int32))])
        refine own_retNS X284 hx hlk hZ hEL rfl hh B284 (t := .boolean) Bd.returns (by simp) (hb hby at_90) ?_ (by decide) (by decide)
        show Q0 n0 _ T284.heap _
        exact ⟨rfl, N284⟩
  · show own_Go p e below _ T1 (mkF m 12 #[.val (.int a), .val (.int c0), .val (.long d), .second, .val (.ref x1), .unset, .unset] [(.int (((a.toUInt32 >>> ((3 : Int32) &&& 31).toUInt32).toInt32) &&& (1 : Int32)))])
    by_cases hc12_2 : (((a.toUInt32 >>> ((3 : Int32) &&& 31).toUInt32).toInt32) &&& (1 : Int32)) = (0 : Int32)
    · refine own_st (fun t_ k_ => XS.ifNo X1.here hx rfl (hb hby at_12) rfl ((if0 _ _).trans (teq hc12_2).2) k_) ?_
      show own_Go p e below _ T1 (mkF m 15 #[.val (.int a), .val (.int c0), .val (.long d), .second, .val (.ref x1), .unset, .unset] [])
      refine own_st (fun t_ k_ => XS.iconst X1.here hx rfl (hb hby at_15) k_) ?_
      show own_Go p e below _ T1 (mkF m 16 #[.val (.int a), .val (.int c0), .val (.long d), .second, .val (.ref x1), .unset, .unset] [(.int (3 : Int32))])
      refine own_st (fun t_ k_ => XS.iloadN X1.here hx rfl (hb hby at_16) rfl k_) ?_
      show own_Go p e below _ T1 (mkF m 17 #[.val (.int a), .val (.int c0), .val (.long d), .second, .val (.ref x1), .unset, .unset] [(.int a), (.int (3 : Int32))])
      refine own_st (fun t_ k_ => XS.iconst X1.here hx rfl (hb hby at_17) k_) ?_
      show own_Go p e below _ T1 (mkF m 18 #[.val (.int a), .val (.int c0), .val (.long d), .second, .val (.ref x1), .unset, .unset] [(.int (4 : Int32)), (.int a), (.int (3 : Int32))])
      refine own_st (fun t_ k_ => XS.iushr X1.here hx rfl (hb hby at_18) rfl k_) ?_
      show own_Go p e below _ T1 (mkF m 19 #[.val (.int a), .val (.int c0), .val (.long d), .second, .val (.ref x1), .unset, .unset] [(.int ((a.toUInt32 >>> ((4 : Int32) &&& 31).toUInt32).toInt32)), (.int (3 : Int32))])
      refine own_st (fun t_ k_ => XS.iconst X1.here hx rfl (hb hby at_19) k_) ?_
      show own_Go p e below _ T1 (mkF m 20 #[.val (.int a), .val (.int c0), .val (.long d), .second, .val (.ref x1), .unset, .unset] [(.int (1 : Int32)), (.int ((a.toUInt32 >>> ((4 : Int32) &&& 31).toUInt32).toInt32)), (.int (3 : Int32))])
      refine own_st (fun t_ k_ => XS.iand X1.here hx rfl (hb hby at_20) rfl k_) ?_
      show own_Go p e below _ T1 (mkF m 21 #[.val (.int a), .val (.int c0), .val (.long d), .second, .val (.ref x1), .unset, .unset] [(.int (((a.toUInt32 >>> ((4 : Int32) &&& 31).toUInt32).toInt32) &&& (1 : Int32))), (.int (3 : Int32))])
      refine own_st (fun t_ k_ => XS.iadd X1.here hx rfl (hb hby at_21) rfl k_) ?_
      show own_Go p e below _ T1 (mkF m 22 #[.val (.int a), .val (.int c0), .val (.long d), .second, .val (.ref x1), .unset, .unset] [(.int ((3 : Int32) + (((a.toUInt32 >>> ((4 : Int32) &&& 31).toUInt32).toInt32) &&& (1 : Int32))))])
      refine own_st (fun t_ k_ => XS.goto X1.here hx rfl (pc0 := 22) (pc' := 26) rfl (hb hby at_22) (by decide) (by decide) k_) ?_
      show own_Go p e below _ T1 (mkF m 26 #[.val (.int a), .val (.int c0), .val (.long d), .second, .val (.ref x1), .unset, .unset] [(.int ((3 : Int32) + (((a.toUInt32 >>> ((4 : Int32) &&& 31).toUInt32).toInt32) &&& (1 : Int32))))])
      exact J_lv _ trivial
    · refine own_st (fun t_ k_ => XS.ifYes X1.here hx rfl (pc0 := 12) (pc' := 25) rfl (hb hby at_12) rfl ((if0 _ _).trans (feq hc12_2).2) (by decide) (by decide) k_) ?_
      show own_Go p e below _ T1 (mkF m 25 #[.val (.int a), .val (.int c0), .val (.long d), .second, .val (.ref x1), .unset, .unset] [])
      refine own_st (fun t_ k_ => XS.iloadN X1.here hx rfl (hb hby at_25) rfl k_) ?_
      show own_Go p e below _ T1 (mkF m 26 #[.val (.int a), .val (.int c0), .val (.long d), .second, .val (.ref x1), .unset, .unset] [(.int c0)])
      exact J_lv _ trivial
set_option maxRecDepth 65536 in
set_option maxHeartbeats 40000000 in
theorem comes_1 {Post : Tables → Env → Array Value → State → Outcome → State → Prop} (hpost : ∀ tb e args s v u, (limb_1_1.after args s (.returned v) u = true ∧ limb_1_2.after args s (.returned v) u = true ∧ True) → ReturnedEndW s (.returned v) u (Jvm.fieldLocs frame_1_writes args s ++ Jvm.arrayLocs frame_1_arrays args s ++ Jvm.staticLocs frame_1_statics s) 24 2176 → Post tb e args s (.returned v) u) :
    ArmFor flags0 classFile x code maxLocals ret World_1 tables_1 room_1 Calls_1 rest_1 Pre_1 Post := by
  intro l hfl _ _ p e ha hc hk s m args below hf hA hF happ hP
  obtain ⟨hcalls, hrest, hpre⟩ := hP
  obtain ⟨-, -, -, hnamed, -, -, -, hat⟩ := (Spec.applies_iff hf).mp happ
  obtain ⟨hg, hn⟩ := and_e (Cond.before_iff.mp (show (Jvm.Cond.and given_1 narrow_1).before args s = true from hpre))
  obtain ⟨g0, hg0⟩ := and_e hg
  obtain ⟨g1, hg1⟩ := and_e hg0
  obtain ⟨g2, hg2⟩ := and_e hg1
  obtain ⟨w0, w1, w2, rfl⟩ : ∃ w0 w1 w2 : Value, args = #[w0, w1, w2] := by
    have hs : args.size = 3 := by simpa [Cond.value, given_1] using g0
    obtain ⟨L⟩ := args
    match L, hs with
    | [w0, w1, w2], _ => exact ⟨w0, w1, w2, rfl⟩
  have hw := fun d (hd : d ∈ tables_1) => atoms_spec (ws := Jvm.Cond.code x code maxLocals ret :: tables_1) hat d (List.mem_cons_of_mem _ hd)
  have hfit : Fit s := fun {y c} hc i hi => by
    obtain ⟨ha, rfl⟩ := Array.getElem?_eq_some_iff.mp hc
    have q := List.all_eq_true.mp ((Array.all_eq_true_iff_forall_mem.mp hF) _ (Array.getElem_mem ha)) i (List.mem_range.mpr hi)
    simpa [Array.getElem?_eq_getElem hi] using q
  obtain ⟨hsets, hown0⟩ := atoms_of _ (rest_1_c_eq ▸ (show rest_1_c.before _ s = true from hrest))
  obtain ⟨i0, ei0⟩ := is_v g1
  obtain rfl : w0 = (.int i0) := Option.some.inj ei0
  obtain ⟨i1, ei1⟩ := is_v g2
  obtain rfl : w1 = (.int i1) := Option.some.inj ei1
  obtain ⟨i2, ei2⟩ := isL_v hg2
  obtain rfl : w2 = (.long i2) := Option.some.inj ei2
  obtain ⟨n0, hn0⟩ := and_e hn
  obtain ⟨a0, ev0⟩ := exa_v n0
  have Xa0 := Exa.start ev0 n0
  have Sa0 := Sta.start ev0 (Or.inr ⟨(hw _ (List.mem_of_getElem? (i := 48) rfl)), (hw _ (List.mem_of_getElem? (i := 49) rfl))⟩)
  obtain ⟨n1, hn1⟩ := and_e hn0
  -- n1: ['Jvm.Cond.arrayOf', ['Jvm.Term.static', '"com/example/lean_pubsub/leanpubsub/codec/ProtocolVersion"', '"$VALUES"', '"[Lcom/example/lean_pubsub/leanpubsub/codec/ProtocolVersion;"'], ['Jvm.ClassFile.FieldType.object', '"com/example/lean_pubsub/leanpubsub/codec/ProtocolVersion"']]
  obtain ⟨n2, hn2⟩ := and_e hn1
  obtain ⟨a2, ev2⟩ := exa_v n2
  have Xa2 := Exa.start ev2 n2
  have Sa2 := Sta.start ev2 (Or.inr ⟨(hw _ (List.mem_of_getElem? (i := 48) rfl)), (hw _ (List.mem_of_getElem? (i := 58) rfl))⟩)
  obtain ⟨n3, hn3⟩ := and_e hn2
  -- n3: ['Jvm.Cond.eq', ['Jvm.Term.length', ['Jvm.Term.static', '"com/example/lean_pubsub/leanpubsub/codec/ProtocolVersion"', '"$VALUES"', '"[Lcom/example/lean_pubsub/leanpubsub/codec/ProtocolVersion;"']], ['Jvm.Term.int', ['2', ':', 'Int32']]]
  obtain ⟨n4, hn4⟩ := and_e hn3
  -- n4: ['Jvm.Cond.eq', ['Jvm.Term.elem', ['Jvm.Term.static', '"com/example/lean_pubsub/leanpubsub/codec/ProtocolVersion"', '"$VALUES"', '"[Lcom/example/lean_pubsub/leanpubsub/codec/ProtocolVersion;"'], ['Jvm.Term.int', ['0', ':', 'Int32']]], ['Jvm.Term.static', '"com/example/lean_pubsub/leanpubsub/codec/Pr
  obtain ⟨n5, hn5⟩ := and_e hn4
  obtain ⟨a5, ev5⟩ := exa_v n5
  have Xa5 := Exa.start ev5 n5
  have Sa5 := Sta.start ev5 (Or.inr ⟨(hw _ (List.mem_of_getElem? (i := 48) rfl)), (hw _ (List.mem_of_getElem? (i := 66) rfl))⟩)
  obtain ⟨n6, hn6⟩ := and_e hn5
  -- n6: ['Jvm.Cond.eq', ['Jvm.Term.elem', ['Jvm.Term.static', '"com/example/lean_pubsub/leanpubsub/codec/ProtocolVersion"', '"$VALUES"', '"[Lcom/example/lean_pubsub/leanpubsub/codec/ProtocolVersion;"'], ['Jvm.Term.int', ['1', ':', 'Int32']]], ['Jvm.Term.static', '"com/example/lean_pubsub/leanpubsub/codec/Pr
  obtain ⟨n7, hn7⟩ := and_e hn6
  -- n7: ['Jvm.Cond.exactly', ['Jvm.Term.field', ['Jvm.Term.static', '"com/example/lean_pubsub/leanpubsub/codec/ProtocolVersion"', '"MQTT_3_1"', '"Lcom/example/lean_pubsub/leanpubsub/codec/ProtocolVersion;"'], '"com/example/lean_pubsub/leanpubsub/codec/ProtocolVersion"', '"protocolName"', '"Ljava/lang/String
  obtain ⟨n8, hn8⟩ := and_e hn7
  -- n8: ['Jvm.Cond.eq', ['Jvm.Term.field', ['Jvm.Term.field', ['Jvm.Term.static', '"com/example/lean_pubsub/leanpubsub/codec/ProtocolVersion"', '"MQTT_3_1"', '"Lcom/example/lean_pubsub/leanpubsub/codec/ProtocolVersion;"'], '"com/example/lean_pubsub/leanpubsub/codec/ProtocolVersion"', '"protocolName"', '"Lja
  obtain ⟨n9, hn9⟩ := and_e hn8
  -- n9: ['Jvm.Cond.arrayOf', ['Jvm.Term.field', ['Jvm.Term.field', ['Jvm.Term.static', '"com/example/lean_pubsub/leanpubsub/codec/ProtocolVersion"', '"MQTT_3_1"', '"Lcom/example/lean_pubsub/leanpubsub/codec/ProtocolVersion;"'], '"com/example/lean_pubsub/leanpubsub/codec/ProtocolVersion"', '"protocolName"', 
  obtain ⟨n10, hn10⟩ := and_e hn9
  -- n10: ['Jvm.Cond.eq', ['Jvm.Term.length', ['Jvm.Term.field', ['Jvm.Term.field', ['Jvm.Term.static', '"com/example/lean_pubsub/leanpubsub/codec/ProtocolVersion"', '"MQTT_3_1"', '"Lcom/example/lean_pubsub/leanpubsub/codec/ProtocolVersion;"'], '"com/example/lean_pubsub/leanpubsub/codec/ProtocolVersion"', '"p
  obtain ⟨n11, hn11⟩ := and_e hn10
  have Fa11 := Fld.start (own_feqI n11 ev0)
  obtain ⟨n12, hn12⟩ := and_e hn11
  -- n12: ['Jvm.Cond.exactly', ['Jvm.Term.field', ['Jvm.Term.static', '"com/example/lean_pubsub/leanpubsub/codec/ProtocolVersion"', '"MQTT_3_1_1"', '"Lcom/example/lean_pubsub/leanpubsub/codec/ProtocolVersion;"'], '"com/example/lean_pubsub/leanpubsub/codec/ProtocolVersion"', '"protocolName"', '"Ljava/lang/Stri
  obtain ⟨n13, hn13⟩ := and_e hn12
  -- n13: ['Jvm.Cond.eq', ['Jvm.Term.field', ['Jvm.Term.field', ['Jvm.Term.static', '"com/example/lean_pubsub/leanpubsub/codec/ProtocolVersion"', '"MQTT_3_1_1"', '"Lcom/example/lean_pubsub/leanpubsub/codec/ProtocolVersion;"'], '"com/example/lean_pubsub/leanpubsub/codec/ProtocolVersion"', '"protocolName"', '"L
  obtain ⟨n14, hn14⟩ := and_e hn13
  -- n14: ['Jvm.Cond.arrayOf', ['Jvm.Term.field', ['Jvm.Term.field', ['Jvm.Term.static', '"com/example/lean_pubsub/leanpubsub/codec/ProtocolVersion"', '"MQTT_3_1_1"', '"Lcom/example/lean_pubsub/leanpubsub/codec/ProtocolVersion;"'], '"com/example/lean_pubsub/leanpubsub/codec/ProtocolVersion"', '"protocolName"'
  obtain ⟨n15, hn15⟩ := and_e hn14
  -- n15: ['Jvm.Cond.eq', ['Jvm.Term.length', ['Jvm.Term.field', ['Jvm.Term.field', ['Jvm.Term.static', '"com/example/lean_pubsub/leanpubsub/codec/ProtocolVersion"', '"MQTT_3_1_1"', '"Lcom/example/lean_pubsub/leanpubsub/codec/ProtocolVersion;"'], '"com/example/lean_pubsub/leanpubsub/codec/ProtocolVersion"', '
  obtain ⟨n16, hn16⟩ := and_e hn15
  -- n16: ['Jvm.Cond.eq', ['Jvm.Term.elem', ['Jvm.Term.field', ['Jvm.Term.field', ['Jvm.Term.static', '"com/example/lean_pubsub/leanpubsub/codec/ProtocolVersion"', '"MQTT_3_1_1"', '"Lcom/example/lean_pubsub/leanpubsub/codec/ProtocolVersion;"'], '"com/example/lean_pubsub/leanpubsub/codec/ProtocolVersion"', '"p
  obtain ⟨n17, hn17⟩ := and_e hn16
  -- n17: ['Jvm.Cond.eq', ['Jvm.Term.elem', ['Jvm.Term.field', ['Jvm.Term.field', ['Jvm.Term.static', '"com/example/lean_pubsub/leanpubsub/codec/ProtocolVersion"', '"MQTT_3_1_1"', '"Lcom/example/lean_pubsub/leanpubsub/codec/ProtocolVersion;"'], '"com/example/lean_pubsub/leanpubsub/codec/ProtocolVersion"', '"p
  obtain ⟨n18, hn18⟩ := and_e hn17
  -- n18: ['Jvm.Cond.eq', ['Jvm.Term.elem', ['Jvm.Term.field', ['Jvm.Term.field', ['Jvm.Term.static', '"com/example/lean_pubsub/leanpubsub/codec/ProtocolVersion"', '"MQTT_3_1_1"', '"Lcom/example/lean_pubsub/leanpubsub/codec/ProtocolVersion;"'], '"com/example/lean_pubsub/leanpubsub/codec/ProtocolVersion"', '"p
  obtain ⟨n19, hn19⟩ := and_e hn18
  -- n19: ['Jvm.Cond.eq', ['Jvm.Term.elem', ['Jvm.Term.field', ['Jvm.Term.field', ['Jvm.Term.static', '"com/example/lean_pubsub/leanpubsub/codec/ProtocolVersion"', '"MQTT_3_1_1"', '"Lcom/example/lean_pubsub/leanpubsub/codec/ProtocolVersion;"'], '"com/example/lean_pubsub/leanpubsub/codec/ProtocolVersion"', '"p
  obtain ⟨n20, hn20⟩ := and_e hn19
  have Fa20 := Fld.start (own_feqI n20 ev5)
  obtain ⟨n21, hn21⟩ := and_e hn20
  -- n21: ['Jvm.Cond.eq', ['Jvm.Term.elem', ['Jvm.Term.field', ['Jvm.Term.field', ['Jvm.Term.static', '"com/example/lean_pubsub/leanpubsub/codec/ProtocolVersion"', '"MQTT_3_1"', '"Lcom/example/lean_pubsub/leanpubsub/codec/ProtocolVersion;"'], '"com/example/lean_pubsub/leanpubsub/codec/ProtocolVersion"', '"pro
  obtain ⟨n22, hn22⟩ := and_e hn21
  -- n22: ['Jvm.Cond.eq', ['Jvm.Term.elem', ['Jvm.Term.field', ['Jvm.Term.field', ['Jvm.Term.static', '"com/example/lean_pubsub/leanpubsub/codec/ProtocolVersion"', '"MQTT_3_1"', '"Lcom/example/lean_pubsub/leanpubsub/codec/ProtocolVersion;"'], '"com/example/lean_pubsub/leanpubsub/codec/ProtocolVersion"', '"pro
  obtain ⟨n23, hn23⟩ := and_e hn22
  -- n23: ['Jvm.Cond.eq', ['Jvm.Term.elem', ['Jvm.Term.field', ['Jvm.Term.field', ['Jvm.Term.static', '"com/example/lean_pubsub/leanpubsub/codec/ProtocolVersion"', '"MQTT_3_1"', '"Lcom/example/lean_pubsub/leanpubsub/codec/ProtocolVersion;"'], '"com/example/lean_pubsub/leanpubsub/codec/ProtocolVersion"', '"pro
  obtain ⟨n24, hn24⟩ := and_e hn23
  -- n24: ['Jvm.Cond.eq', ['Jvm.Term.elem', ['Jvm.Term.field', ['Jvm.Term.field', ['Jvm.Term.static', '"com/example/lean_pubsub/leanpubsub/codec/ProtocolVersion"', '"MQTT_3_1"', '"Lcom/example/lean_pubsub/leanpubsub/codec/ProtocolVersion;"'], '"com/example/lean_pubsub/leanpubsub/codec/ProtocolVersion"', '"pro
  obtain ⟨n25, hn25⟩ := and_e hn24
  -- n25: ['Jvm.Cond.eq', ['Jvm.Term.elem', ['Jvm.Term.field', ['Jvm.Term.field', ['Jvm.Term.static', '"com/example/lean_pubsub/leanpubsub/codec/ProtocolVersion"', '"MQTT_3_1"', '"Lcom/example/lean_pubsub/leanpubsub/codec/ProtocolVersion;"'], '"com/example/lean_pubsub/leanpubsub/codec/ProtocolVersion"', '"pro
  -- hn25: ['Jvm.Cond.eq', ['Jvm.Term.elem', ['Jvm.Term.field', ['Jvm.Term.field', ['Jvm.Term.static', '"com/example/lean_pubsub/leanpubsub/codec/ProtocolVersion"', '"MQTT_3_1"', '"Lcom/example/lean_pubsub/leanpubsub/codec/ProtocolVersion;"'], '"com/example/lean_pubsub/leanpubsub/codec/ProtocolVersion"', '"pro
  have nCS5 := not_v (Cond.before_iff.mp (hsets _ (List.mem_of_getElem? (i := 2) rfl)))
  obtain ⟨cs11, e10⟩ := is_v (Cond.before_iff.mp (hsets _ (List.mem_of_getElem? (i := 1) rfl)))
  have S12 : Sta s s.heap "java/lang/String" "COMPACT_STRINGS" "Z" (.int cs11) := Sta.start e10 (Or.inl (hsets _ (List.mem_of_getElem? (i := 0) rfl)))
  have c17 : ¬ (cs11 = (0 : Int32)) := gotF (Cond.eq_ints e10 (Term.int_eval (0))) nCS5
  obtain ⟨v13, e14, r15⟩ := isR_v (Cond.before_iff.mp (hsets _ (List.mem_of_getElem? (i := 8) rfl)))
  have S16 : Sta s s.heap "jdk/internal/util/Preconditions" "SIOOBE_FORMATTER" "Ljava/util/function/BiFunction;" v13 := Sta.start e14 (Or.inl (hsets _ (List.mem_of_getElem? (i := 7) rfl)))
  have hCH : CHv s consts_1 s.vm s.heap := CHv.start (own_EL hw) (fun p hp => hcalls.1 p hp) (hsets _ (List.mem_of_getElem? (i := 2) rfl)) (hw _ (List.mem_of_getElem? (i := 23) rfl)) (hw _ (List.mem_of_getElem? (i := 6) rfl))
  obtain ⟨clv, Arv_⟩ := Arr.start ev2 n1
  obtain ⟨ql, qe⟩ := own_len n3 ev2 Arv_
  have Av := Arv.start (dv := .null) (vs := [(.ref a0), (.ref a5)]) hfit Arv_ ql qe (by decide) rfl ⟨own_elemR n4 ev2 ev0 Arv_ (by decide), own_elemR n6 ev2 ev5 Arv_ (by decide), trivial⟩
  obtain ⟨mp31, evp31⟩ := exa_v n7
  have Emp31 := Exa.start evp31 n7
  have Fnp31 := Fld.start ((fld_at ev0).symm.trans evp31)
  have Fcp31 := Fld.start (own_feqI n8 evp31)
  obtain ⟨qp31, eqp31⟩ := arr_v n9
  have Fvp31 := Fld.start ((fld_at evp31).symm.trans eqp31)
  obtain ⟨clp31, Arp31⟩ := Arr.start eqp31 n9
  obtain ⟨qlp31, qep31⟩ := own_len n10 eqp31 Arp31
  have Abp31 := Arv.start (dv := (.int (0 : Int32))) (vs := ((([77, 81, 73, 115, 100, 112] : List Int32).map (fun c : Int32 => c.toInt8.toInt32)).map Value.int)) (z := (6 : Int32)) hfit Arp31 qlp31 qep31 (by decide) rfl ⟨own_elem n21 eqp31 Arp31 (by decide), own_elem n22 eqp31 Arp31 (by decide), own_elem n23 eqp31 Arp31 (by decide), own_elem n24 eqp31 Arp31 (by decide), own_elem n25 eqp31 Arp31 (by decide), own_elem hn25 eqp31 Arp31 (by decide), trivial⟩
  obtain ⟨mp311, evp311⟩ := exa_v n12
  have Emp311 := Exa.start evp311 n12
  have Fnp311 := Fld.start ((fld_at ev5).symm.trans evp311)
  have Fcp311 := Fld.start (own_feqI n13 evp311)
  obtain ⟨qp311, eqp311⟩ := arr_v n14
  have Fvp311 := Fld.start ((fld_at evp311).symm.trans eqp311)
  obtain ⟨clp311, Arp311⟩ := Arr.start eqp311 n14
  obtain ⟨qlp311, qep311⟩ := own_len n15 eqp311 Arp311
  have Abp311 := Arv.start (dv := (.int (0 : Int32))) (vs := ((([77, 81, 84, 84] : List Int32).map (fun c : Int32 => c.toInt8.toInt32)).map Value.int)) (z := (4 : Int32)) hfit Arp311 qlp311 qep311 (by decide) rfl ⟨own_elem n16 eqp311 Arp311 (by decide), own_elem n17 eqp311 Arp311 (by decide), own_elem n18 eqp311 Arp311 (by decide), own_elem n19 eqp311 Arp311 (by decide), trivial⟩
  obtain ⟨n, o, h1, h2, h3, _, L, rfl, ⟨rfl, N⟩, -, hq⟩ := rm0 l s _ hw tables_1 i0 i1 i2 cs11 a2 a0 a5 mp31 qp31 mp311 qp311 clv.cls clp31.cls clp311.cls s.heap s.heap.size (Nat.le_refl _) S12 c17 (Old.start s) Sa2 Av Xa2 Xa0 Xa5 Fnp31 Fa11 Fnp311 Fa20 Emp31 Fcp31 Fvp31 Abp31 (by decide) (by decide) Emp311 Fcp311 Fvp311 Abp311 (by decide) (by decide) Sa0 Sa5 p e ha hc hk s m _ below hf ((Spec.applies_iff_loose hf).mp happ).1 ⟨rfl, State.Warmed39.refl s, rfl, hCH⟩ trivial
  refine ⟨n, _, h1, h2, h3, hpost _ _ _ _ _ _ ⟨Cond.after_iff.mpr rfl, Cond.after_iff.mpr (eq_i res_at (Term.int_eval (1)) rfl), trivial⟩ ⟨hq.1, hq.2.1, hq.2.2.1, (hq.2.2.2.sift fun y hy => Or.inr (N y hy)).mono (by decide) (by decide)⟩⟩
theorem main_1_1 : Claimed_1_1 := comes_1 fun _ _ _ _ _ _ h hF => ⟨h.1, hF⟩
theorem main_1_2 : Claimed_1_2 := comes_1 fun _ _ _ _ _ _ h hF => ⟨h.2.1, hF⟩
end Jvm.Pilot.@@N@@
namespace Jvm.Pilot.@@N@@
open Jvm Jvm.ClassFile Sem Op Lib Jvm.Free Jvm.Stand Jvm.Pilot.@@N@@.Jvm.D
/-! MADE BY PROGRAM (witnessworld.py) out of the Statement's table words and the real class files: 22 classes; the members and pool entries that the words name. The judged class is class 1, her method 3. -/
namespace start1
open Jvm.ClassFile
def u (s : String) : CpInfo := .utf8 (stringToUtf16 s)
/-- a pool by its gaps: so many unusable entries, then the entry; so many at the end -/
def gap : Nat → List CpInfo → List CpInfo
  | 0, r => r
  | n + 1, r => .unusable :: gap n r
def poolList (es : List (Nat × CpInfo)) (last : Nat) : List CpInfo := es.foldr (fun e r => gap e.1 (e.2 :: r)) (gap last [])
def pool (es : List (Nat × CpInfo)) (last : Nat) : Array CpInfo := ⟨poolList es last⟩
def fileOf (pool : Array CpInfo) (this : Nat) (attrs : Array Attribute := #[]) (ms : Array MethodInfo := #[]) (fl : Nat := 33) (sup : Nat := 0) (ifs : Array Nat := #[]) (fds : Array FieldInfo := #[]) : ClassFile where
  minorVersion := 0
  majorVersion := 65
  constantPool := pool
  accessFlags := fl
  thisClass := this
  superClass := sup
  interfaces := ifs
  fields := fds
  methods := ms
  attributes := attrs
def plain (name : String) (sup : Option ClassId) : Class where
  name := name
  kind := .ordinary
  loader := none
  accessFlags := 33
  super := sup
  interfaces := #[]
  cf := none
  fields := #[]
  methods := #[]
  instanceTypes := #[]
  staticTypes := #[]
  resolved := #[]
  callSites := []
  init := .initialized
  statics := none
  mirror := none

def pool0 : Array CpInfo := pool [(5, u "<init>"), (0, u "()V"), (1, .class_ 10), (1, u "java/lang/Object"), (85, u "clone"), (0, u "()Ljava/lang/Object;")] 26

def k0c0 : Code := { maxStack := 0, maxLocals := 1, code := object_method_1_code, exceptionTable := #[], attributes := #[] }
def k0m0 : Method := { name := "<init>", desc := "()V", sig := { parameters := [], returnType := none }, accessFlags := 1, code := some k0c0 }
def k0m1 : Method := { name := "clone", desc := "()Ljava/lang/Object;", sig := { parameters := [], returnType := some (.object "java/lang/Object") }, accessFlags := 260, code := none }
/-- java/lang/Object -/
def k0 : Class := { plain "java/lang/Object" none with
  accessFlags := 33
  interfaces := #[]
  cf := some (fileOf pool0 8 #[] #[{ accessFlags := 1, nameIndex := 5, descriptorIndex := 6, attributes := #[] }, { accessFlags := 260, nameIndex := 96, descriptorIndex := 97, attributes := #[] }] 33 0 #[] #[])
  fields := #[]
  methods := #[k0m0, k0m1]
  instanceTypes := #[]
  staticTypes := #[]
  resolved := Array.replicate 124 none
  statics := none }

def pool1 : Array CpInfo := pool [(2, .class_ 4), (1, u "java/lang/Object"), (0, u "<init>"), (0, u "()V"), (0, .long 255), (1, .methodref 10 11), (0, .class_ 12), (0, .nameAndType 13 14), (0, u "com/example/lean_pubsub/leanpubsub/codec/ProtocolVersionFindPinLaw"), (0, u "pick"), (0, u "(JI)C"), (0, .class_ 16), (0, u "java/lang/String"), (0, .methodref 15 18), (0, .nameAndType 5 19), (0, u "([C)V"), (0, .methodref 10 21), (0, .nameAndType 22 23), (0, u "name"), (0, u "(IJ)Ljava/lang/String;"), (0, .string 25), (0, u "MQIsdp"), (0, .methodref 15 27), (0, .nameAndType 28 29), (0, u "equals"), (0, u "(Ljava/lang/Object;)Z"), (0, .fieldref 31 32), (0, .class_ 33), (0, .nameAndType 34 35), (0, u "com/example/lean_pubsub/leanpubsub/codec/ProtocolVersion"), (0, u "MQTT_3_1"), (0, u "Lcom/example/lean_pubsub/leanpubsub/codec/ProtocolVersion;"), (0, .string 37), (0, u "MQTT"), (0, .fieldref 31 39), (0, .nameAndType 40 35), (0, u "MQTT_3_1_1"), (0, .methodref 31 42), (0, .nameAndType 43 44), (0, u "find"), (0, u "(Ljava/lang/String;I)Lcom/example/lean_pubsub/leanpubsub/codec/ProtocolVersion;"), (5, u "law"), (0, u "(IIJ)Z")] 2

def k1m0 : Method := { name := "<init>", desc := "()V", sig := { parameters := [], returnType := none }, accessFlags := 1, code := none }
def k1c1 : Code := { maxStack := 4, maxLocals := 3, code := method_2_code, exceptionTable := #[], attributes := #[] }
def k1m1 : Method := { name := "pick", desc := "(JI)C", sig := { parameters := [.long, .int], returnType := some .char }, accessFlags := 10, code := some k1c1 }
def k1c2 : Code := { maxStack := 6, maxLocals := 7, code := method_3_code, exceptionTable := #[], attributes := #[] }
def k1m2 : Method := { name := "name", desc := "(IJ)Ljava/lang/String;", sig := { parameters := [.int, .long], returnType := some (.object "java/lang/String") }, accessFlags := 10, code := some k1c2 }
def k1c3 : Code := { maxStack := 3, maxLocals := 7, code := code, exceptionTable := #[], attributes := #[] }
def k1m3 : Method := { name := "law", desc := "(IIJ)Z", sig := { parameters := [.int, .int, .long], returnType := some .boolean }, accessFlags := 9, code := some k1c3 }
/-- com/example/lean_pubsub/leanpubsub/codec/ProtocolVersionFindPinLaw -/
def k1 : Class := { plain "com/example/lean_pubsub/leanpubsub/codec/ProtocolVersionFindPinLaw" (some 0) with
  accessFlags := 49
  interfaces := #[]
  cf := some (fileOf pool1 10 #[] #[{ accessFlags := 1, nameIndex := 5, descriptorIndex := 6, attributes := #[] }, { accessFlags := 10, nameIndex := 13, descriptorIndex := 14, attributes := #[] }, { accessFlags := 10, nameIndex := 22, descriptorIndex := 23, attributes := #[] }, { accessFlags := 9, nameIndex := 50, descriptorIndex := 51, attributes := #[] }] 49 2 #[] #[])
  fields := #[]
  methods := #[k1m0, k1m1, k1m2, k1m3]
  instanceTypes := #[]
  staticTypes := #[]
  resolved := Array.replicate 54 none
  statics := none }

def pool2 : Array CpInfo := pool [(1, .class_ 2), (0, u "java/io/Serializable"), (0, .class_ 4), (0, u "java/lang/Object")] 2

/-- java/io/Serializable -/
def k2 : Class := { plain "java/io/Serializable" (some 0) with
  accessFlags := 1537
  interfaces := #[]
  cf := some (fileOf pool2 1 #[] #[] 1537 3 #[] #[])
  fields := #[]
  methods := #[]
  instanceTypes := #[]
  staticTypes := #[]
  resolved := Array.replicate 7 none
  statics := none }

def pool3 : Array CpInfo := pool [(1, .class_ 2), (0, u "java/lang/Comparable"), (0, .class_ 4), (0, u "java/lang/Object")] 7

/-- java/lang/Comparable -/
def k3 : Class := { plain "java/lang/Comparable" (some 0) with
  accessFlags := 1537
  interfaces := #[]
  cf := some (fileOf pool3 1 #[] #[] 1537 3 #[] #[])
  fields := #[]
  methods := #[]
  instanceTypes := #[]
  staticTypes := #[]
  resolved := Array.replicate 12 none
  statics := none }

def pool4 : Array CpInfo := pool [(2, .class_ 4), (1, u "java/lang/CharSequence"), (42, .class_ 48), (0, u "java/lang/CharSequence$1CodePointIterator"), (10, .class_ 60), (0, u "java/lang/CharSequence$1CharIterator"), (5, .class_ 67), (0, u "java/lang/Object")] 63

/-- java/lang/CharSequence -/
def k4 : Class := { plain "java/lang/CharSequence" (some 0) with
  accessFlags := 1537
  interfaces := #[]
  cf := some (fileOf pool4 2 #[.nestMembers #[47, 59]] #[] 1537 66 #[] #[])
  fields := #[]
  methods := #[]
  instanceTypes := #[]
  staticTypes := #[]
  resolved := Array.replicate 131 none
  statics := none }

def pool5 : Array CpInfo := pool [(1, .class_ 2), (0, u "java/lang/constant/Constable"), (0, .class_ 4), (0, u "java/lang/Object")] 6

/-- java/lang/constant/Constable -/
def k5 : Class := { plain "java/lang/constant/Constable" (some 0) with
  accessFlags := 1537
  interfaces := #[]
  cf := some (fileOf pool5 1 #[] #[] 1537 3 #[] #[])
  fields := #[]
  methods := #[]
  instanceTypes := #[]
  staticTypes := #[]
  resolved := Array.replicate 11 none
  statics := none }

def pool6 : Array CpInfo := pool [(1, .class_ 2), (0, u "java/lang/constant/ConstantDesc"), (0, .class_ 4), (0, u "java/lang/Object")] 32

/-- java/lang/constant/ConstantDesc -/
def k6 : Class := { plain "java/lang/constant/ConstantDesc" (some 0) with
  accessFlags := 1537
  interfaces := #[]
  cf := some (fileOf pool6 1 #[] #[] 1537 3 #[] #[])
  fields := #[]
  methods := #[]
  instanceTypes := #[]
  staticTypes := #[]
  resolved := Array.replicate 37 none
  statics := none }

def pool7 : Array CpInfo := pool [(1, .methodref 2 3), (0, .class_ 4), (0, .nameAndType 5 6), (0, u "java/lang/Object"), (0, u "<init>"), (0, u "()V"), (2, .fieldref 10 11), (0, .class_ 12), (0, .nameAndType 13 14), (0, u "java/lang/String"), (0, u "value"), (0, u "[B"), (0, .fieldref 10 16), (0, .nameAndType 17 18), (0, u "coder"), (0, u "B"), (2, u "hash"), (0, u "I"), (2, u "hashIsZero"), (0, u "Z"), (0, .methodref 10 28), (0, .nameAndType 5 29), (0, u "([CIILjava/lang/Void;)V"), (8, .fieldref 10 39), (0, .nameAndType 40 26), (0, u "COMPACT_STRINGS"), (1, .class_ 44), (1, u "java/lang/StringUTF16"), (0, u "compress"), (1, .methodref 42 48), (0, .nameAndType 49 50), (0, u "coderFromArrayLen"), (0, u "([BI)B"), (56, .class_ 109), (1, u "java/lang/StringLatin1"), (67, .methodref 42 178), (0, .nameAndType 45 179), (0, u "([CII)[B"), (361, .methodref 107 542), (0, .nameAndType 543 544), (0, u "equals"), (0, u "([B[B)Z"), (28, u "(Ljava/lang/Object;)Z"), (1, .class_ 576), (0, u "java/lang/CharSequence"), (22, u "CASE_INSENSITIVE_ORDER"), (0, u "Ljava/util/Comparator;"), (409, u "([C)V"), (90, u "serialPersistentFields"), (0, u "[Ljava/io/ObjectStreamField;"), (0, .class_ 1104), (0, u "java/lang/String$CaseInsensitiveComparator"), (1, .class_ 1107), (0, u "java/io/Serializable"), (0, .class_ 1109), (0, u "java/lang/Comparable"), (0, .class_ 1111), (0, u "java/lang/constant/Constable"), (0, .class_ 1113), (0, u "java/lang/constant/ConstantDesc"), (2, u "serialVersionUID"), (0, u "J"), (3, u "REPL"), (0, u "C"), (2, u "LATIN1"), (1, u "UTF16")] 323

def k7m0 : Method := { name := "<init>", desc := "()V", sig := { parameters := [], returnType := none }, accessFlags := 1, code := none }
def k7c1 : Code := { maxStack := 5, maxLocals := 2, code := jdk_42_method_3_code, exceptionTable := #[], attributes := #[] }
def k7m1 : Method := { name := "<init>", desc := "([C)V", sig := { parameters := [(.array .char)], returnType := none }, accessFlags := 1, code := some k7c1 }
def k7c2 : Code := { maxStack := 2, maxLocals := 3, code := jdk_42_method_66_code, exceptionTable := #[], attributes := #[] }
def k7m2 : Method := { name := "equals", desc := "(Ljava/lang/Object;)Z", sig := { parameters := [(.object "java/lang/Object")], returnType := some .boolean }, accessFlags := 1, code := some k7c2 }
def k7c3 : Code := { maxStack := 4, maxLocals := 6, code := jdk_42_method_149_code, exceptionTable := #[], attributes := #[] }
def k7m3 : Method := { name := "<init>", desc := "([CIILjava/lang/Void;)V", sig := { parameters := [(.array .char), .int, .int, (.object "java/lang/Void")], returnType := none }, accessFlags := 2, code := some k7c3 }
/-- java/lang/String -/
def k7 : Class := { plain "java/lang/String" (some 0) with
  accessFlags := 49
  interfaces := #[2, 3, 4, 5, 6]
  cf := some (fileOf pool7 10 #[.nestMembers #[1103]] #[{ accessFlags := 1, nameIndex := 5, descriptorIndex := 6, attributes := #[] }, { accessFlags := 1, nameIndex := 5, descriptorIndex := 1010, attributes := #[] }, { accessFlags := 1, nameIndex := 543, descriptorIndex := 573, attributes := #[] }, { accessFlags := 2, nameIndex := 5, descriptorIndex := 29, attributes := #[] }] 49 2 #[1106, 1108, 575, 1110, 1112] #[{ accessFlags := 18, nameIndex := 13, descriptorIndex := 14, attributes := #[] }, { accessFlags := 18, nameIndex := 17, descriptorIndex := 18, attributes := #[] }, { accessFlags := 2, nameIndex := 21, descriptorIndex := 22, attributes := #[] }, { accessFlags := 2, nameIndex := 25, descriptorIndex := 26, attributes := #[] }, { accessFlags := 26, nameIndex := 1116, descriptorIndex := 1117, attributes := #[] }, { accessFlags := 24, nameIndex := 40, descriptorIndex := 26, attributes := #[] }, { accessFlags := 26, nameIndex := 1101, descriptorIndex := 1102, attributes := #[] }, { accessFlags := 26, nameIndex := 1121, descriptorIndex := 1122, attributes := #[] }, { accessFlags := 25, nameIndex := 599, descriptorIndex := 600, attributes := #[] }, { accessFlags := 24, nameIndex := 1125, descriptorIndex := 18, attributes := #[] }, { accessFlags := 24, nameIndex := 1127, descriptorIndex := 18, attributes := #[] }])
  fields := #[{ name := "value", type := (.array .byte), accessFlags := 18, slot := 0, constantValue := 0 }, { name := "coder", type := .byte, accessFlags := 18, slot := 1, constantValue := 0 }, { name := "hash", type := .int, accessFlags := 2, slot := 2, constantValue := 0 }, { name := "hashIsZero", type := .boolean, accessFlags := 2, slot := 3, constantValue := 0 }, { name := "serialVersionUID", type := .long, accessFlags := 26, slot := 0, constantValue := 0 }, { name := "COMPACT_STRINGS", type := .boolean, accessFlags := 24, slot := 1, constantValue := 0 }, { name := "serialPersistentFields", type := (.array (.object "java/io/ObjectStreamField")), accessFlags := 26, slot := 2, constantValue := 0 }, { name := "REPL", type := .char, accessFlags := 26, slot := 3, constantValue := 0 }, { name := "CASE_INSENSITIVE_ORDER", type := (.object "java/util/Comparator"), accessFlags := 25, slot := 4, constantValue := 0 }, { name := "LATIN1", type := .byte, accessFlags := 24, slot := 5, constantValue := 0 }, { name := "UTF16", type := .byte, accessFlags := 24, slot := 6, constantValue := 0 }]
  methods := #[k7m0, k7m1, k7m2, k7m3]
  instanceTypes := #[(.array .byte), .byte, .int, .boolean]
  staticTypes := #[.long, .boolean, (.array (.object "java/io/ObjectStreamField")), .char, (.object "java/util/Comparator"), .byte, .byte]
  resolved := Array.replicate 1451 none
  statics := some 0 }

def pool8 : Array CpInfo := pool [(6, .class_ 8), (1, u "java/lang/Object"), (0, u "<init>"), (0, u "()V"), (1, .class_ 14), (1, u "java/lang/StringUTF16"), (31, u "$assertionsDisabled"), (0, u "Z"), (13, u "HI_BYTE_SHIFT"), (0, u "I"), (2, u "LO_BYTE_SHIFT"), (49, .methodref 12 116), (0, .nameAndType 117 118), (0, u "compress"), (0, u "([CI[BII)I"), (3, u "([CII)[B"), (138, u "coderFromArrayLen"), (0, u "([BI)B"), (106, .class_ 371), (1, u "java/lang/StringUTF16$LinesSpliterator"), (58, u "MAX_LENGTH"), (196, .class_ 628), (0, u "java/lang/StringUTF16$CodePointsSpliterator"), (0, .class_ 630), (0, u "java/lang/StringUTF16$CharsSpliterator")] 4

def k8m0 : Method := { name := "<init>", desc := "()V", sig := { parameters := [], returnType := none }, accessFlags := 0, code := none }
def k8c1 : Code := { maxStack := 2, maxLocals := 2, code := jdk_52_method_15_code, exceptionTable := #[], attributes := #[] }
def k8m1 : Method := { name := "coderFromArrayLen", desc := "([BI)B", sig := { parameters := [(.array .byte), .int], returnType := some .byte }, accessFlags := 8, code := some k8c1 }
def k8c2 : Code := { maxStack := 5, maxLocals := 6, code := jdk_52_method_16_code, exceptionTable := #[], attributes := #[] }
def k8m2 : Method := { name := "compress", desc := "([CII)[B", sig := { parameters := [(.array .char), .int, .int], returnType := some (.array .byte) }, accessFlags := 9, code := some k8c2 }
def k8c3 : Code := { maxStack := 3, maxLocals := 7, code := jdk_52_method_21_code, exceptionTable := #[], attributes := #[] }
def k8m3 : Method := { name := "compress", desc := "([CI[BII)I", sig := { parameters := [(.array .char), .int, (.array .byte), .int, .int], returnType := some .int }, accessFlags := 9, code := some k8c3 }
/-- java/lang/StringUTF16 -/
def k8 : Class := { plain "java/lang/StringUTF16" (some 0) with
  accessFlags := 48
  interfaces := #[]
  cf := some (fileOf pool8 12 #[.nestMembers #[627, 629, 369]] #[{ accessFlags := 0, nameIndex := 9, descriptorIndex := 10, attributes := #[] }, { accessFlags := 8, nameIndex := 261, descriptorIndex := 262, attributes := #[] }, { accessFlags := 9, nameIndex := 117, descriptorIndex := 122, attributes := #[] }, { accessFlags := 9, nameIndex := 117, descriptorIndex := 118, attributes := #[] }] 48 6 #[] #[{ accessFlags := 26, nameIndex := 61, descriptorIndex := 62, attributes := #[] }, { accessFlags := 26, nameIndex := 65, descriptorIndex := 62, attributes := #[] }, { accessFlags := 24, nameIndex := 430, descriptorIndex := 62, attributes := #[] }, { accessFlags := 4120, nameIndex := 46, descriptorIndex := 47, attributes := #[] }])
  fields := #[{ name := "HI_BYTE_SHIFT", type := .int, accessFlags := 26, slot := 0, constantValue := 0 }, { name := "LO_BYTE_SHIFT", type := .int, accessFlags := 26, slot := 1, constantValue := 0 }, { name := "MAX_LENGTH", type := .int, accessFlags := 24, slot := 2, constantValue := 0 }, { name := "$assertionsDisabled", type := .boolean, accessFlags := 4120, slot := 3, constantValue := 0 }]
  methods := #[k8m0, k8m1, k8m2, k8m3]
  instanceTypes := #[]
  staticTypes := #[.int, .int, .int, .boolean]
  resolved := Array.replicate 635 none
  statics := none }

def pool9 : Array CpInfo := pool [(4, .class_ 6), (1, u "java/lang/Object"), (0, u "<init>"), (0, u "()V"), (5, .class_ 16), (1, u "java/lang/StringLatin1"), (104, u "$assertionsDisabled"), (0, u "Z"), (98, .class_ 223), (1, u "java/lang/StringLatin1$LinesSpliterator"), (57, u "equals"), (0, u "([B[B)Z"), (107, .class_ 391), (0, u "java/lang/StringLatin1$CharsSpliterator")] 3

def k9m0 : Method := { name := "<init>", desc := "()V", sig := { parameters := [], returnType := none }, accessFlags := 0, code := none }
def k9c1 : Code := { maxStack := 3, maxLocals := 3, code := jdk_43_method_13_code, exceptionTable := #[], attributes := #[] }
def k9m1 : Method := { name := "equals", desc := "([B[B)Z", sig := { parameters := [(.array .byte), (.array .byte)], returnType := some .boolean }, accessFlags := 9, code := some k9c1 }
/-- java/lang/StringLatin1 -/
def k9 : Class := { plain "java/lang/StringLatin1" (some 0) with
  accessFlags := 48
  interfaces := #[]
  cf := some (fileOf pool9 14 #[.nestMembers #[390, 221]] #[{ accessFlags := 0, nameIndex := 7, descriptorIndex := 8, attributes := #[] }, { accessFlags := 9, nameIndex := 281, descriptorIndex := 282, attributes := #[] }] 48 4 #[] #[{ accessFlags := 4120, nameIndex := 121, descriptorIndex := 122, attributes := #[] }])
  fields := #[{ name := "$assertionsDisabled", type := .boolean, accessFlags := 4120, slot := 0, constantValue := 0 }]
  methods := #[k9m0, k9m1]
  instanceTypes := #[]
  staticTypes := #[.boolean]
  resolved := Array.replicate 395 none
  statics := none }

def pool10 : Array CpInfo := pool [(2, .class_ 4), (1, u "java/lang/Enum"), (0, u "name"), (0, u "Ljava/lang/String;"), (2, u "ordinal"), (0, u "I"), (1, .class_ 14), (1, u "java/lang/Object"), (4, u "hash"), (86, .class_ 108), (1, u "java/lang/Enum$EnumDesc"), (2, .class_ 112), (0, u "java/lang/constant/Constable"), (0, .class_ 114), (0, u "java/lang/Comparable"), (0, .class_ 116), (0, u "java/io/Serializable")] 87

/-- java/lang/Enum -/
def k10 : Class := { plain "java/lang/Enum" (some 0) with
  accessFlags := 1057
  interfaces := #[5, 3, 2]
  cf := some (fileOf pool10 2 #[.nestMembers #[106]] #[] 1057 12 #[111, 113, 115] #[{ accessFlags := 18, nameIndex := 5, descriptorIndex := 6, attributes := #[] }, { accessFlags := 18, nameIndex := 9, descriptorIndex := 10, attributes := #[] }, { accessFlags := 2, nameIndex := 19, descriptorIndex := 10, attributes := #[] }])
  fields := #[{ name := "name", type := (.object "java/lang/String"), accessFlags := 18, slot := 0, constantValue := 0 }, { name := "ordinal", type := .int, accessFlags := 18, slot := 1, constantValue := 0 }, { name := "hash", type := .int, accessFlags := 2, slot := 2, constantValue := 0 }]
  methods := #[]
  instanceTypes := #[(.object "java/lang/String"), .int, .int]
  staticTypes := #[]
  resolved := Array.replicate 204 none
  statics := none }

def pool11 : Array CpInfo := pool [(1, .class_ 2), (0, u "com/example/lean_pubsub/leanpubsub/codec/ProtocolVersion"), (2, u "MQTT_3_1"), (0, u "Lcom/example/lean_pubsub/leanpubsub/codec/ProtocolVersion;"), (2, u "MQTT_3_1_1"), (0, .fieldref 1 11), (0, .nameAndType 12 13), (0, u "$VALUES"), (0, u "[Lcom/example/lean_pubsub/leanpubsub/codec/ProtocolVersion;"), (0, .methodref 15 16), (0, .class_ 13), (0, .nameAndType 17 18), (0, u "clone"), (0, u "()Ljava/lang/Object;"), (1, .class_ 22), (1, u "java/lang/Enum"), (6, .fieldref 1 30), (0, .nameAndType 31 32), (0, u "protocolName"), (0, u "Ljava/lang/String;"), (0, .fieldref 1 34), (0, .nameAndType 35 36), (0, u "protocolLevel"), (0, u "I"), (0, .methodref 1 38), (0, .nameAndType 39 40), (0, u "values"), (0, u "()[Lcom/example/lean_pubsub/leanpubsub/codec/ProtocolVersion;"), (0, .methodref 42 43), (0, .class_ 44), (0, .nameAndType 45 46), (0, u "java/lang/String"), (0, u "equals"), (0, u "(Ljava/lang/Object;)Z"), (20, u "find"), (0, u "(Ljava/lang/String;I)Lcom/example/lean_pubsub/leanpubsub/codec/ProtocolVersion;")] 5

def k11c0 : Code := { maxStack := 1, maxLocals := 0, code := prog_33_method_1_code, exceptionTable := #[], attributes := #[] }
def k11m0 : Method := { name := "values", desc := "()[Lcom/example/lean_pubsub/leanpubsub/codec/ProtocolVersion;", sig := { parameters := [], returnType := some (.array (.object "com/example/lean_pubsub/leanpubsub/codec/ProtocolVersion")) }, accessFlags := 9, code := some k11c0 }
def k11c1 : Code := { maxStack := 2, maxLocals := 6, code := prog_33_method_5_code, exceptionTable := #[], attributes := #[] }
def k11m1 : Method := { name := "find", desc := "(Ljava/lang/String;I)Lcom/example/lean_pubsub/leanpubsub/codec/ProtocolVersion;", sig := { parameters := [(.object "java/lang/String"), .int], returnType := some (.object "com/example/lean_pubsub/leanpubsub/codec/ProtocolVersion") }, accessFlags := 8, code := some k11c1 }
/-- com/example/lean_pubsub/leanpubsub/codec/ProtocolVersion -/
def k11 : Class := { plain "com/example/lean_pubsub/leanpubsub/codec/ProtocolVersion" (some 10) with
  accessFlags := 16433
  interfaces := #[]
  cf := some (fileOf pool11 1 #[] #[{ accessFlags := 9, nameIndex := 39, descriptorIndex := 40, attributes := #[] }, { accessFlags := 8, nameIndex := 67, descriptorIndex := 68, attributes := #[] }] 16433 20 #[] #[{ accessFlags := 16409, nameIndex := 5, descriptorIndex := 6, attributes := #[] }, { accessFlags := 16409, nameIndex := 9, descriptorIndex := 6, attributes := #[] }, { accessFlags := 18, nameIndex := 31, descriptorIndex := 32, attributes := #[] }, { accessFlags := 18, nameIndex := 35, descriptorIndex := 36, attributes := #[] }, { accessFlags := 4122, nameIndex := 12, descriptorIndex := 13, attributes := #[] }])
  fields := #[{ name := "MQTT_3_1", type := (.object "com/example/lean_pubsub/leanpubsub/codec/ProtocolVersion"), accessFlags := 16409, slot := 0, constantValue := 0 }, { name := "MQTT_3_1_1", type := (.object "com/example/lean_pubsub/leanpubsub/codec/ProtocolVersion"), accessFlags := 16409, slot := 1, constantValue := 0 }, { name := "protocolName", type := (.object "java/lang/String"), accessFlags := 18, slot := 3, constantValue := 0 }, { name := "protocolLevel", type := .int, accessFlags := 18, slot := 4, constantValue := 0 }, { name := "$VALUES", type := (.array (.object "com/example/lean_pubsub/leanpubsub/codec/ProtocolVersion")), accessFlags := 4122, slot := 2, constantValue := 0 }]
  methods := #[k11m0, k11m1]
  instanceTypes := #[(.object "java/lang/String"), .int, .int, (.object "java/lang/String"), .int]
  staticTypes := #[(.object "com/example/lean_pubsub/leanpubsub/codec/ProtocolVersion"), (.object "com/example/lean_pubsub/leanpubsub/codec/ProtocolVersion"), (.array (.object "com/example/lean_pubsub/leanpubsub/codec/ProtocolVersion"))]
  resolved := Array.replicate 74 none
  statics := some 1 }

def pool12 : Array CpInfo := pool [(1, .class_ 2), (0, u "java/lang/Cloneable"), (0, .class_ 4), (0, u "java/lang/Object")] 2

/-- java/lang/Cloneable -/
def k12 : Class := { plain "java/lang/Cloneable" (some 0) with
  accessFlags := 1537
  interfaces := #[]
  cf := some (fileOf pool12 1 #[] #[] 1537 3 #[] #[])
  fields := #[]
  methods := #[]
  instanceTypes := #[]
  staticTypes := #[]
  resolved := Array.replicate 7 none
  statics := none }

def pool13 : Array CpInfo := pool [(2, .class_ 4), (1, u "java/lang/Object"), (0, u "<init>"), (0, u "()V"), (17, .class_ 26), (1, u "jdk/internal/util/Preconditions"), (28, .class_ 56), (0, u "jdk/internal/util/Preconditions$4"), (57, .class_ 115), (0, u "jdk/internal/util/Preconditions$1"), (7, u "SIOOBE_FORMATTER"), (0, u "Ljava/util/function/BiFunction;"), (0, .class_ 126), (0, u "jdk/internal/util/Preconditions$2"), (3, u "AIOOBE_FORMATTER"), (0, .class_ 132), (0, u "jdk/internal/util/Preconditions$3"), (3, u "IOOBE_FORMATTER")] 57

def k13m0 : Method := { name := "<init>", desc := "()V", sig := { parameters := [], returnType := none }, accessFlags := 1, code := none }
/-- jdk/internal/util/Preconditions -/
def k13 : Class := { plain "jdk/internal/util/Preconditions" (some 0) with
  accessFlags := 33
  interfaces := #[]
  cf := some (fileOf pool13 24 #[.nestMembers #[55, 131, 125, 114]] #[{ accessFlags := 1, nameIndex := 5, descriptorIndex := 6, attributes := #[] }] 33 2 #[] #[{ accessFlags := 25, nameIndex := 123, descriptorIndex := 124, attributes := #[] }, { accessFlags := 25, nameIndex := 130, descriptorIndex := 124, attributes := #[] }, { accessFlags := 25, nameIndex := 136, descriptorIndex := 124, attributes := #[] }])
  fields := #[{ name := "SIOOBE_FORMATTER", type := (.object "java/util/function/BiFunction"), accessFlags := 25, slot := 0, constantValue := 0 }, { name := "AIOOBE_FORMATTER", type := (.object "java/util/function/BiFunction"), accessFlags := 25, slot := 1, constantValue := 0 }, { name := "IOOBE_FORMATTER", type := (.object "java/util/function/BiFunction"), accessFlags := 25, slot := 2, constantValue := 0 }]
  methods := #[k13m0]
  instanceTypes := #[]
  staticTypes := #[(.object "java/util/function/BiFunction"), (.object "java/util/function/BiFunction"), (.object "java/util/function/BiFunction")]
  resolved := Array.replicate 194 none
  statics := some 2 }

def pool14 : Array CpInfo := pool [(9, u "<init>"), (6, .class_ 18), (1, u "java/lang/Object"), (0, u "()V"), (1, .class_ 23), (1, u "jdk/internal/util/ArraysSupport"), (0, u "LOG2_ARRAY_LONG_INDEX_SCALE"), (0, u "I"), (2, u "U"), (0, u "Ljdk/internal/misc/Unsafe;"), (8, u "BIG_ENDIAN"), (0, u "Z"), (8, u "LOG2_BYTE_BIT_SIZE"), (4, u "LOG2_ARRAY_INT_INDEX_SCALE"), (54, u "JLA"), (0, u "Ljdk/internal/access/JavaLangAccess;"), (11, u "LOG2_ARRAY_BOOLEAN_INDEX_SCALE"), (9, u "LOG2_ARRAY_BYTE_INDEX_SCALE"), (5, u "LOG2_ARRAY_CHAR_INDEX_SCALE"), (5, u "LOG2_ARRAY_SHORT_INDEX_SCALE"), (18, u "LOG2_ARRAY_FLOAT_INDEX_SCALE"), (24, u "LOG2_ARRAY_DOUBLE_INDEX_SCALE"), (89, u "T_BOOLEAN"), (2, u "T_CHAR"), (1, u "T_FLOAT"), (1, u "T_DOUBLE"), (1, u "T_BYTE"), (1, u "T_SHORT"), (1, u "T_INT"), (1, u "T_LONG"), (1, u "SOFT_MAX_ARRAY_LENGTH")] 83

def k14m0 : Method := { name := "<init>", desc := "()V", sig := { parameters := [], returnType := none }, accessFlags := 2, code := none }
/-- jdk/internal/util/ArraysSupport -/
def k14 : Class := { plain "jdk/internal/util/ArraysSupport" (some 0) with
  accessFlags := 33
  interfaces := #[]
  cf := some (fileOf pool14 21 #[] #[{ accessFlags := 2, nameIndex := 9, descriptorIndex := 19, attributes := #[] }] 33 16 #[] #[{ accessFlags := 24, nameIndex := 28, descriptorIndex := 29, attributes := #[] }, { accessFlags := 26, nameIndex := 38, descriptorIndex := 39, attributes := #[] }, { accessFlags := 25, nameIndex := 121, descriptorIndex := 25, attributes := #[] }, { accessFlags := 25, nameIndex := 131, descriptorIndex := 25, attributes := #[] }, { accessFlags := 25, nameIndex := 137, descriptorIndex := 25, attributes := #[] }, { accessFlags := 25, nameIndex := 143, descriptorIndex := 25, attributes := #[] }, { accessFlags := 25, nameIndex := 53, descriptorIndex := 25, attributes := #[] }, { accessFlags := 25, nameIndex := 24, descriptorIndex := 25, attributes := #[] }, { accessFlags := 25, nameIndex := 162, descriptorIndex := 25, attributes := #[] }, { accessFlags := 25, nameIndex := 187, descriptorIndex := 25, attributes := #[] }, { accessFlags := 26, nameIndex := 48, descriptorIndex := 25, attributes := #[] }, { accessFlags := 25, nameIndex := 277, descriptorIndex := 25, attributes := #[] }, { accessFlags := 25, nameIndex := 280, descriptorIndex := 25, attributes := #[] }, { accessFlags := 25, nameIndex := 282, descriptorIndex := 25, attributes := #[] }, { accessFlags := 25, nameIndex := 284, descriptorIndex := 25, attributes := #[] }, { accessFlags := 25, nameIndex := 286, descriptorIndex := 25, attributes := #[] }, { accessFlags := 25, nameIndex := 288, descriptorIndex := 25, attributes := #[] }, { accessFlags := 25, nameIndex := 290, descriptorIndex := 25, attributes := #[] }, { accessFlags := 25, nameIndex := 292, descriptorIndex := 25, attributes := #[] }, { accessFlags := 26, nameIndex := 108, descriptorIndex := 109, attributes := #[] }, { accessFlags := 25, nameIndex := 294, descriptorIndex := 25, attributes := #[] }])
  fields := #[{ name := "U", type := (.object "jdk/internal/misc/Unsafe"), accessFlags := 24, slot := 0, constantValue := 0 }, { name := "BIG_ENDIAN", type := .boolean, accessFlags := 26, slot := 1, constantValue := 0 }, { name := "LOG2_ARRAY_BOOLEAN_INDEX_SCALE", type := .int, accessFlags := 25, slot := 2, constantValue := 0 }, { name := "LOG2_ARRAY_BYTE_INDEX_SCALE", type := .int, accessFlags := 25, slot := 3, constantValue := 0 }, { name := "LOG2_ARRAY_CHAR_INDEX_SCALE", type := .int, accessFlags := 25, slot := 4, constantValue := 0 }, { name := "LOG2_ARRAY_SHORT_INDEX_SCALE", type := .int, accessFlags := 25, slot := 5, constantValue := 0 }, { name := "LOG2_ARRAY_INT_INDEX_SCALE", type := .int, accessFlags := 25, slot := 6, constantValue := 0 }, { name := "LOG2_ARRAY_LONG_INDEX_SCALE", type := .int, accessFlags := 25, slot := 7, constantValue := 0 }, { name := "LOG2_ARRAY_FLOAT_INDEX_SCALE", type := .int, accessFlags := 25, slot := 8, constantValue := 0 }, { name := "LOG2_ARRAY_DOUBLE_INDEX_SCALE", type := .int, accessFlags := 25, slot := 9, constantValue := 0 }, { name := "LOG2_BYTE_BIT_SIZE", type := .int, accessFlags := 26, slot := 10, constantValue := 0 }, { name := "T_BOOLEAN", type := .int, accessFlags := 25, slot := 11, constantValue := 0 }, { name := "T_CHAR", type := .int, accessFlags := 25, slot := 12, constantValue := 0 }, { name := "T_FLOAT", type := .int, accessFlags := 25, slot := 13, constantValue := 0 }, { name := "T_DOUBLE", type := .int, accessFlags := 25, slot := 14, constantValue := 0 }, { name := "T_BYTE", type := .int, accessFlags := 25, slot := 15, constantValue := 0 }, { name := "T_SHORT", type := .int, accessFlags := 25, slot := 16, constantValue := 0 }, { name := "T_INT", type := .int, accessFlags := 25, slot := 17, constantValue := 0 }, { name := "T_LONG", type := .int, accessFlags := 25, slot := 18, constantValue := 0 }, { name := "JLA", type := (.object "jdk/internal/access/JavaLangAccess"), accessFlags := 26, slot := 19, constantValue := 0 }, { name := "SOFT_MAX_ARRAY_LENGTH", type := .int, accessFlags := 25, slot := 20, constantValue := 0 }]
  methods := #[k14m0]
  instanceTypes := #[]
  staticTypes := #[(.object "jdk/internal/misc/Unsafe"), .boolean, .int, .int, .int, .int, .int, .int, .int, .int, .int, .int, .int, .int, .int, .int, .int, .int, .int, (.object "jdk/internal/access/JavaLangAccess"), .int]
  resolved := Array.replicate 378 none
  statics := none }

/-- the primitive byte -/
def k15 : Class := { plain "byte" none with kind := .primitive 'B', accessFlags := 0x411 }
/-- [B -/
def k16 : Class := { plain "[B" (some 0) with kind := .array 15 .byte, interfaces := #[12, 2], accessFlags := 1041 }

/-- the primitive char -/
def k17 : Class := { plain "char" none with kind := .primitive 'C', accessFlags := 0x411 }
/-- [C -/
def k18 : Class := { plain "[C" (some 0) with kind := .array 17 .char, interfaces := #[12, 2], accessFlags := 1041 }

/-- the primitive int -/
def k19 : Class := { plain "int" none with kind := .primitive 'I', accessFlags := 0x411 }
/-- [I -/
def k20 : Class := { plain "[I" (some 0) with kind := .array 19 .int, interfaces := #[12, 2], accessFlags := 1041 }

/-- [Lcom/example/lean_pubsub/leanpubsub/codec/ProtocolVersion; -/
def k21 : Class := { plain "[Lcom/example/lean_pubsub/leanpubsub/codec/ProtocolVersion;" (some 0) with kind := .array 11 (.object "com/example/lean_pubsub/leanpubsub/codec/ProtocolVersion"), interfaces := #[12, 2], accessFlags := 1041 }

def heap : Heap := #[{ cls := 7, slots := #[.long 0, .int 1, .null, .int 0, .null, .int 0, .int 0], vm := .statics 7 },
  { cls := 11, slots := #[.ref 8, .ref 9, .ref 3], vm := .statics 11 },
  { cls := 13, slots := #[.null, .null, .null], vm := .statics 13 },
  { cls := 21, slots := #[.ref 8, .ref 9], vm := .none },
  { cls := 16, slots := #[.int 77, .int 81, .int 73, .int 115, .int 100, .int 112], vm := .none },
  { cls := 7, slots := #[.ref 4, .int 0, .int 0, .int 0], vm := .none },
  { cls := 16, slots := #[.int 77, .int 81, .int 84, .int 84], vm := .none },
  { cls := 7, slots := #[.ref 6, .int 0, .int 0, .int 0], vm := .none },
  { cls := 11, slots := #[.null, .int 0, .int 0, .ref 5, .int 3], vm := .none },
  { cls := 11, slots := #[.null, .int 1, .int 0, .ref 7, .int 4], vm := .none }]
def classes : Array Class := #[k0, k1, k2, k3, k4, k5, k6, k7, k8, k9, k10, k11, k12, k13, k14, k15, k16, k17, k18, k19, k20, k21]
def interned : List (Array UInt16 × Addr) := []
def slotsUsed : Nat := 43
def theMethod : MethodId := ⟨1, 3⟩
def args0 : Array Value := #[.int 9, .int 3, .long 66]
def aboutOver (below : List Frame) : State where
  vm := { classes := classes, interned := interned.toArray }
  heap := heap
  slotsUsed := slotsUsed
  threads := #[{ frames := .invoking theMethod args0 :: below }]
def below0 : List Frame := [.native { method := ⟨0, 0⟩, args := #[] }]
def about1 : State := aboutOver below0
def p0 : Program := .bare "" "" ""
def e0 : Env := launch0.env 0 0 0
theorem w_frames : about1.frames = Frame.invoking theMethod args0 :: below0 := rfl
set_option maxRecDepth 65536 in
theorem w_args : argsFit about1.vm theMethod args0 = true := by decide +kernel
set_option maxRecDepth 65536 in
theorem w_heap : heapFits about1 = true := by decide +kernel
set_option maxRecDepth 65536 in
theorem w_runnable : about1.curStatus? = some .runnable := by decide +kernel
set_option maxRecDepth 65536 in
theorem w_alone : about1.alone = true := by decide +kernel
set_option maxRecDepth 65536 in
theorem w_named : about1.methodNamed? x = some theMethod := by decide +kernel
set_option maxRecDepth 65536 in
theorem w_hears : about1.hears theMethod below0 = true := by decide +kernel
set_option maxRecDepth 65536 in
theorem w_ripe : about1.ripe theMethod args0 below0 = true := by decide +kernel
theorem w_running : about1.status = .running := rfl
set_option maxRecDepth 65536 in
theorem w_room : about1.hasRoom e0.platform room_1 = true :=
  launch0.hasRoom_least _ room_1 (by decide +kernel) (by decide +kernel) (by decide +kernel) (by decide +kernel) (by decide +kernel) (by decide +kernel)
theorem allAtoms_all (ts : List Jvm.Cond) (a : Array Jvm.Value) (st : Jvm.State) : (allAtoms ts).before a st = ts.all (fun c => c.before a st) := by
  induction ts with
  | nil => rfl
  | cons c t ih =>
    show (Jvm.Cond.and c (allAtoms t)).before a st = _
    rw [Jvm.Cond.before_and, ih, List.all_cons]
def words1 : List Jvm.Cond := Jvm.Cond.code x code maxLocals ret :: tables_1
/-- a 'code' word, met by the world's own term for the bytes: nothing is compared byte by byte -/
theorem code_word {y : MethodName} {bytes : ByteArray} {mx : Nat} {rt : Option FieldType} {a : Array Value} {s : State} {m : MethodId} {meth : Method} {c : Code} (h1 : s.methodNamed? y = some m) (h2 : s.vm.method? m = some meth) (h3 : meth.code = some c) (h4 : c.code = bytes)
    (h5 : (c.maxLocals == mx && c.exceptionTable.isEmpty && decide (c.maxStack ≤ mostOperands) && decide (meth.sig.returnType = rt) && !meth.locks && decide (parseMethodDescriptor y.desc = some meth.sig)) = true) : (Jvm.Cond.code y bytes mx rt).before a s = true := by
  simp only [Bool.and_eq_true, beq_iff_eq, Bool.not_eq_true', decide_eq_true_eq] at h5
  obtain ⟨⟨⟨⟨⟨g1, g2⟩, g3⟩, g4⟩, g5⟩, g6⟩ := h5
  simp [Cond.before, Cond.holds, Cond.value, h1, h2, h3, h4, g1, g2, g3, g4, g5, g6]
def isCode : Jvm.Cond → Bool
  | .code _ _ _ _ => true
  | _ => false
theorem all_split {L : List Jvm.Cond} {P : Jvm.Cond → Bool} (h1 : L.all (fun c => isCode c || P c) = true) (h2 : ∀ c ∈ L.filter isCode, P c = true) : L.all P = true := by
  refine List.all_eq_true.mpr fun c hc => ?_
  have h := List.all_eq_true.mp h1 c hc
  rcases Bool.eq_false_or_eq_true (isCode c) with hi | hi
  · exact h2 c (List.mem_filter.mpr ⟨hc, hi⟩)
  · simpa [hi] using h
set_option maxRecDepth 65536 in
theorem w_c0 : (Jvm.Cond.code x code maxLocals ret).before args0 about1 = true := code_word (m := ⟨1, 3⟩) (meth := k1m3) (c := k1c3) (by decide +kernel) rfl rfl rfl (by decide +kernel)
set_option maxRecDepth 65536 in
theorem w_c1 : (Jvm.Cond.code ({ cls := "com/example/lean_pubsub/leanpubsub/codec/ProtocolVersionFindPinLaw", name := "name", desc := "(IJ)Ljava/lang/String;" } : Jvm.MethodName) method_3_code (7 : Nat) (Option.some (Jvm.ClassFile.FieldType.object "java/lang/String"))).before args0 about1 = true := code_word (m := ⟨1, 2⟩) (meth := k1m2) (c := k1c2) (by decide +kernel) rfl rfl rfl (by decide +kernel)
set_option maxRecDepth 65536 in
theorem w_c2 : (Jvm.Cond.code ({ cls := "java/lang/String", name := "<init>", desc := "([C)V" } : Jvm.MethodName) jdk_42_method_3_code (2 : Nat) (Option.none : Option Jvm.ClassFile.FieldType)).before args0 about1 = true := code_word (m := ⟨7, 1⟩) (meth := k7m1) (c := k7c1) (by decide +kernel) rfl rfl rfl (by decide +kernel)
set_option maxRecDepth 65536 in
theorem w_c3 : (Jvm.Cond.code ({ cls := "java/lang/String", name := "<init>", desc := "([CIILjava/lang/Void;)V" } : Jvm.MethodName) jdk_42_method_149_code (6 : Nat) (Option.none : Option Jvm.ClassFile.FieldType)).before args0 about1 = true := code_word (m := ⟨7, 3⟩) (meth := k7m3) (c := k7c3) (by decide +kernel) rfl rfl rfl (by decide +kernel)
set_option maxRecDepth 65536 in
theorem w_c4 : (Jvm.Cond.code ({ cls := "java/lang/Object", name := "<init>", desc := "()V" } : Jvm.MethodName) object_method_1_code (1 : Nat) (Option.none : Option Jvm.ClassFile.FieldType)).before args0 about1 = true := code_word (m := ⟨0, 0⟩) (meth := k0m0) (c := k0c0) (by decide +kernel) rfl rfl rfl (by decide +kernel)
set_option maxRecDepth 65536 in
theorem w_c5 : (Jvm.Cond.code ({ cls := "java/lang/StringUTF16", name := "compress", desc := "([CII)[B" } : Jvm.MethodName) jdk_52_method_16_code (6 : Nat) (Option.some (Jvm.ClassFile.FieldType.array Jvm.ClassFile.FieldType.byte))).before args0 about1 = true := code_word (m := ⟨8, 2⟩) (meth := k8m2) (c := k8c2) (by decide +kernel) rfl rfl rfl (by decide +kernel)
set_option maxRecDepth 65536 in
theorem w_c6 : (Jvm.Cond.code ({ cls := "java/lang/StringUTF16", name := "compress", desc := "([CI[BII)I" } : Jvm.MethodName) jdk_52_method_21_code (7 : Nat) (Option.some Jvm.ClassFile.FieldType.int)).before args0 about1 = true := code_word (m := ⟨8, 3⟩) (meth := k8m3) (c := k8c3) (by decide +kernel) rfl rfl rfl (by decide +kernel)
set_option maxRecDepth 65536 in
theorem w_c7 : (Jvm.Cond.code ({ cls := "java/lang/StringUTF16", name := "coderFromArrayLen", desc := "([BI)B" } : Jvm.MethodName) jdk_52_method_15_code (2 : Nat) (Option.some Jvm.ClassFile.FieldType.byte)).before args0 about1 = true := code_word (m := ⟨8, 1⟩) (meth := k8m1) (c := k8c1) (by decide +kernel) rfl rfl rfl (by decide +kernel)
set_option maxRecDepth 65536 in
theorem w_c8 : (Jvm.Cond.code ({ cls := "java/lang/String", name := "equals", desc := "(Ljava/lang/Object;)Z" } : Jvm.MethodName) jdk_42_method_66_code (3 : Nat) (Option.some Jvm.ClassFile.FieldType.boolean)).before args0 about1 = true := code_word (m := ⟨7, 2⟩) (meth := k7m2) (c := k7c2) (by decide +kernel) rfl rfl rfl (by decide +kernel)
set_option maxRecDepth 65536 in
theorem w_c9 : (Jvm.Cond.code ({ cls := "java/lang/StringLatin1", name := "equals", desc := "([B[B)Z" } : Jvm.MethodName) jdk_43_method_13_code (3 : Nat) (Option.some Jvm.ClassFile.FieldType.boolean)).before args0 about1 = true := code_word (m := ⟨9, 1⟩) (meth := k9m1) (c := k9c1) (by decide +kernel) rfl rfl rfl (by decide +kernel)
set_option maxRecDepth 65536 in
theorem w_c10 : (Jvm.Cond.code ({ cls := "com/example/lean_pubsub/leanpubsub/codec/ProtocolVersion", name := "find", desc := "(Ljava/lang/String;I)Lcom/example/lean_pubsub/leanpubsub/codec/ProtocolVersion;" } : Jvm.MethodName) prog_33_method_5_code (6 : Nat) (Option.some (Jvm.ClassFile.FieldType.object "com/example/lean_pubsub/leanpubsub/codec/ProtocolVersion"))).before args0 about1 = true := code_word (m := ⟨11, 1⟩) (meth := k11m1) (c := k11c1) (by decide +kernel) rfl rfl rfl (by decide +kernel)
set_option maxRecDepth 65536 in
theorem w_c11 : (Jvm.Cond.code ({ cls := "com/example/lean_pubsub/leanpubsub/codec/ProtocolVersion", name := "values", desc := "()[Lcom/example/lean_pubsub/leanpubsub/codec/ProtocolVersion;" } : Jvm.MethodName) prog_33_method_1_code (0 : Nat) (Option.some (Jvm.ClassFile.FieldType.array (Jvm.ClassFile.FieldType.object "com/example/lean_pubsub/leanpubsub/codec/ProtocolVersion")))).before args0 about1 = true := code_word (m := ⟨11, 0⟩) (meth := k11m0) (c := k11c0) (by decide +kernel) rfl rfl rfl (by decide +kernel)
set_option maxRecDepth 65536 in
theorem w_c12 : (Jvm.Cond.code ({ cls := "com/example/lean_pubsub/leanpubsub/codec/ProtocolVersionFindPinLaw", name := "pick", desc := "(JI)C" } : Jvm.MethodName) method_2_code (3 : Nat) (Option.some Jvm.ClassFile.FieldType.char)).before args0 about1 = true := code_word (m := ⟨1, 1⟩) (meth := k1m1) (c := k1c1) (by decide +kernel) rfl rfl rfl (by decide +kernel)
def codes1 : List Jvm.Cond := [Jvm.Cond.code x code maxLocals ret, Jvm.Cond.code ({ cls := "com/example/lean_pubsub/leanpubsub/codec/ProtocolVersionFindPinLaw", name := "name", desc := "(IJ)Ljava/lang/String;" } : Jvm.MethodName) method_3_code (7 : Nat) (Option.some (Jvm.ClassFile.FieldType.object "java/lang/String")), Jvm.Cond.code ({ cls := "java/lang/String", name := "<init>", desc := "([C)V" } : Jvm.MethodName) jdk_42_method_3_code (2 : Nat) (Option.none : Option Jvm.ClassFile.FieldType), Jvm.Cond.code ({ cls := "java/lang/String", name := "<init>", desc := "([CIILjava/lang/Void;)V" } : Jvm.MethodName) jdk_42_method_149_code (6 : Nat) (Option.none : Option Jvm.ClassFile.FieldType), Jvm.Cond.code ({ cls := "java/lang/Object", name := "<init>", desc := "()V" } : Jvm.MethodName) object_method_1_code (1 : Nat) (Option.none : Option Jvm.ClassFile.FieldType), Jvm.Cond.code ({ cls := "java/lang/StringUTF16", name := "compress", desc := "([CII)[B" } : Jvm.MethodName) jdk_52_method_16_code (6 : Nat) (Option.some (Jvm.ClassFile.FieldType.array Jvm.ClassFile.FieldType.byte)), Jvm.Cond.code ({ cls := "java/lang/StringUTF16", name := "compress", desc := "([CI[BII)I" } : Jvm.MethodName) jdk_52_method_21_code (7 : Nat) (Option.some Jvm.ClassFile.FieldType.int), Jvm.Cond.code ({ cls := "java/lang/StringUTF16", name := "coderFromArrayLen", desc := "([BI)B" } : Jvm.MethodName) jdk_52_method_15_code (2 : Nat) (Option.some Jvm.ClassFile.FieldType.byte), Jvm.Cond.code ({ cls := "java/lang/String", name := "equals", desc := "(Ljava/lang/Object;)Z" } : Jvm.MethodName) jdk_42_method_66_code (3 : Nat) (Option.some Jvm.ClassFile.FieldType.boolean), Jvm.Cond.code ({ cls := "java/lang/StringLatin1", name := "equals", desc := "([B[B)Z" } : Jvm.MethodName) jdk_43_method_13_code (3 : Nat) (Option.some Jvm.ClassFile.FieldType.boolean), Jvm.Cond.code ({ cls := "com/example/lean_pubsub/leanpubsub/codec/ProtocolVersion", name := "find", desc := "(Ljava/lang/String;I)Lcom/example/lean_pubsub/leanpubsub/codec/ProtocolVersion;" } : Jvm.MethodName) prog_33_method_5_code (6 : Nat) (Option.some (Jvm.ClassFile.FieldType.object "com/example/lean_pubsub/leanpubsub/codec/ProtocolVersion")), Jvm.Cond.code ({ cls := "com/example/lean_pubsub/leanpubsub/codec/ProtocolVersion", name := "values", desc := "()[Lcom/example/lean_pubsub/leanpubsub/codec/ProtocolVersion;" } : Jvm.MethodName) prog_33_method_1_code (0 : Nat) (Option.some (Jvm.ClassFile.FieldType.array (Jvm.ClassFile.FieldType.object "com/example/lean_pubsub/leanpubsub/codec/ProtocolVersion"))), Jvm.Cond.code ({ cls := "com/example/lean_pubsub/leanpubsub/codec/ProtocolVersionFindPinLaw", name := "pick", desc := "(JI)C" } : Jvm.MethodName) method_2_code (3 : Nat) (Option.some Jvm.ClassFile.FieldType.char)]
set_option maxRecDepth 65536 in
theorem codes_eq : words1.filter isCode = codes1 := rfl
theorem w_codes : ∀ c ∈ words1.filter isCode, c.before args0 about1 = true := by
  rw [codes_eq]
  intro c hc
  simp only [codes1, List.mem_cons, List.not_mem_nil, or_false] at hc
  rcases hc with rfl | rfl | rfl | rfl | rfl | rfl | rfl | rfl | rfl | rfl | rfl | rfl | rfl
  · exact w_c0
  · exact w_c1
  · exact w_c2
  · exact w_c3
  · exact w_c4
  · exact w_c5
  · exact w_c6
  · exact w_c7
  · exact w_c8
  · exact w_c9
  · exact w_c10
  · exact w_c11
  · exact w_c12
set_option maxRecDepth 65536 in
theorem w_t1 : (words1.take 24).all (fun c => isCode c || c.before args0 about1) = true := by decide +kernel
set_option maxRecDepth 65536 in
theorem w_t2 : ((words1.drop 24).take 24).all (fun c => isCode c || c.before args0 about1) = true := by decide +kernel
set_option maxRecDepth 65536 in
theorem w_t3 : (((words1.drop 24).drop 24).take 24).all (fun c => isCode c || c.before args0 about1) = true := by decide +kernel
set_option maxRecDepth 65536 in
theorem w_t4 : (((words1.drop 24).drop 24).drop 24).all (fun c => isCode c || c.before args0 about1) = true := by decide +kernel
theorem w_tables : (allAtoms (Jvm.Cond.code x code maxLocals ret :: tables_1)).before args0 about1 = true := by
  rw [allAtoms_all]
  show words1.all (fun c => c.before args0 about1) = true
  refine all_split ?_ w_codes
  rw [← List.take_append_drop 24 words1, List.all_append, w_t1, ← List.take_append_drop 24 (words1.drop 24), List.all_append, w_t2, ← List.take_append_drop 24 ((words1.drop 24).drop 24), List.all_append, w_t3, w_t4]
  rfl
set_option maxRecDepth 65536 in
theorem w_rest : rest_1_c.before args0 about1 = true := by decide +kernel
set_option maxRecDepth 65536 in
theorem w_case : (Jvm.Cond.and given_1 narrow_1).before args0 about1 = true := by decide +kernel
set_option maxRecDepth 65536 in
theorem w_consts : constsHeld consts_1 about1 := Jvm.Lit.constsHeldB_iff.mp (by decide +kernel)
theorem w_applies : (headSpec (Jvm.Cond.code x code maxLocals ret :: tables_1) room_1).applies x e0.platform about1 = true :=
  (Spec.applies_iff w_frames).mpr ⟨w_running, w_runnable, w_alone, w_named, w_hears, w_ripe, w_room, w_tables⟩
theorem atStart : AtStart classFile x code maxLocals ret World_1 tables_1 room_1 Calls_1 rest_1 Pre_1 launch0 p0 e0 about1 theMethod args0 below0 :=
  ⟨lists_1, trivial, launch0.admits_env _ _ _, launch0.least_env, fairChoices_fair.cas, fairChoices_fair.clock, w_frames, w_args, w_heap, w_applies, ⟨w_consts, trivial⟩, w_rest, w_case⟩
end start1
theorem witness_1 : WitnessClaimed_1 := ⟨start1.p0, start1.e0, start1.about1, start1.theMethod, start1.args0, start1.below0, start1.atStart⟩
end Jvm.Pilot.@@N@@
