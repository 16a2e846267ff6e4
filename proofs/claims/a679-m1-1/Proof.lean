import JvmDerived
import JvmDerived.Pilot.@@N@@Statement
import JvmDerived.Pilot.@@N@@Code
set_option linter.unusedVariables false
set_option linter.unusedSimpArgs false
/- laws to paste: Road.backV, Road.lenW, Road.chN, Road.codOf (cut by pick.py; bodies as the Statement names them) -/
namespace Jvm.Pilot.@@N@@
namespace StrChars
open Jvm Sem ClassFile Op Lib Jvm.Stand Jvm.Free.XT Jvm.Free.ALB Jvm.Free.JM Jvm.Free
open Jvm.Lib.Cold (StaticIs)
/-- a char array whose places are chars -/
def Ch (a : Addr) (A : Cell) (U : State) : Prop := Arr .char a A U ∧ Typed .char A
theorem Ch.mv {a : Addr} {A : Cell} {U U' : State} (h : Ch a A U) (hal : U.vm.Alike U'.vm) (hh : U'.heap = U.heap) : Ch a A U' := ⟨h.1.mv hal hh, h.2⟩
theorem Ch.keep {a : Addr} {A : Cell} {U U' : State} (h : Ch a A U) (hal : U.vm.Alike U'.vm) (hk : U'.heap[a]? = some A) : Ch a A U' := ⟨h.1.keep hal hk, h.2⟩
/-- what place i of a char[]'s cell holds -/
def cv (A : Cell) (i : Nat) : Int32 := match A.slots[i]? with | some (.int x) => x | _ => 0
theorem Ch.get {a : Addr} {A : Cell} {U : State} (h : Ch a A U) {i : Nat} (hi : i < A.slots.size) : A.slots[i]? = some (.int (cv A i)) := by
  have e := Array.getElem?_eq_getElem hi
  have f := h.2 i _ e
  unfold cv; rw [e]
  generalize A.slots[i] = v at f
  cases v <;> simp [fits] at f ⊢
/-- the byte that i2b leaves of a char -/
def lo8 (x : Int32) : Int32 := x.toInt8.toInt32
theorem fits_lo8 (y : Int32) : fits .byte (.int (lo8 y)) = true := by
  have h1 := y.toInt8.le_toInt
  have h2 := y.toInt8.toInt_lt
  simp only [lo8, fits, Bool.and_eq_true, decide_eq_true_eq, Int32.le_iff_toInt_le, Int8.toInt_toInt32, show (-128 : Int32).toInt = -128 from by decide, show (127 : Int32).toInt = 127 from by decide]
  omega
/-- A' is A but that each place j of lo .. hi - 1 holds f j -/
def Laid (A A' : Cell) (lo hi : Nat) (f : Nat → Value) : Prop := A'.cls = A.cls ∧ A'.vm = A.vm ∧ A'.slots.size = A.slots.size ∧ ∀ i, A'.slots[i]? = if lo ≤ i ∧ i < hi then some (f i) else A.slots[i]?
theorem Laid.zero (A : Cell) (lo : Nat) (f : Nat → Value) : Laid A A lo (lo + 0) f := ⟨rfl, rfl, rfl, fun i => by rw [if_neg (by omega)]⟩
theorem Laid.step {A Ak : Cell} {lo k : Nat} {f : Nat → Value} {v : Value} (h : Laid A Ak lo k f) (hlo : lo ≤ k) (hk : k < Ak.slots.size) (hv : v = f k) : Laid A (Ak.setSlot k v) lo (k + 1) f := by
  refine ⟨h.1, h.2.1, by simpa [Cell.setSlot] using h.2.2.1, fun i => ?_⟩
  by_cases e : k = i
  · subst e; rw [Cell.slots_setSlot_self v hk, if_pos (by omega), hv]
  · rw [Cell.slots_setSlot_ne v e, h.2.2.2 i]
    by_cases q : lo ≤ i ∧ i < k
    · rw [if_pos q, if_pos (by omega)]
    · rw [if_neg q, if_neg (by omega)]
def U16 : String := "java/lang/StringUTF16"
namespace Cmp5
def yN : MethodName := ⟨"java/lang/StringUTF16", "compress", "([CI[BII)I"⟩
abbrev yB : ByteArray := jdk_52_method_21_code
theorem d0 : decode yB 0 = .ok (.iconst 0, 1) := by decide +kernel
theorem d1 : decode yB 1 = .ok (.istore 5, 2) := by decide +kernel
theorem d3 : decode yB 3 = .ok (.iload 5, 2) := by decide +kernel
theorem d5 : decode yB 5 = .ok (.iload 4, 2) := by decide +kernel
theorem d7 : decode yB 7 = .ok (.if_icmp (.ge) 37, 3) := by decide +kernel
theorem d10 : decode yB 10 = .ok (.aload_n 0, 1) := by decide +kernel
theorem d11 : decode yB 11 = .ok (.iload_n 1, 1) := by decide +kernel
theorem d12 : decode yB 12 = .ok (.caload, 1) := by decide +kernel
theorem d13 : decode yB 13 = .ok (.istore 6, 2) := by decide +kernel
theorem d15 : decode yB 15 = .ok (.iload 6, 2) := by decide +kernel
theorem d17 : decode yB 17 = .ok (.sipush 255, 3) := by decide +kernel
theorem d20 : decode yB 20 = .ok (.if_icmp (.le) 6, 3) := by decide +kernel
theorem d26 : decode yB 26 = .ok (.aload_n 2, 1) := by decide +kernel
theorem d27 : decode yB 27 = .ok (.iload_n 3, 1) := by decide +kernel
theorem d28 : decode yB 28 = .ok (.iload 6, 2) := by decide +kernel
theorem d30 : decode yB 30 = .ok (.i2b, 1) := by decide +kernel
theorem d31 : decode yB 31 = .ok (.bastore, 1) := by decide +kernel
theorem d32 : decode yB 32 = .ok (.iinc 1 1, 3) := by decide +kernel
theorem d35 : decode yB 35 = .ok (.iinc 3 1, 3) := by decide +kernel
theorem d38 : decode yB 38 = .ok (.iinc 5 1, 3) := by decide +kernel
theorem d41 : decode yB 41 = .ok (.goto (-38), 3) := by decide +kernel
theorem d44 : decode yB 44 = .ok (.iload 4, 2) := by decide +kernel
theorem d46 : decode yB 46 = .ok (.ireturn, 1) := by decide +kernel
def site : List Cond := []
def tab : Cond := tabOf yN yB 7 (some .int) site
def P (b : Addr) (A : Cell) (d : Addr) (B : Cell) (o q len : Nat) (args : Array Value) (s : State) : Prop := args = #[.ref b, .int (Int32.ofNat o), .ref d, .int (Int32.ofNat q), .int (Int32.ofNat len)] ∧ Ch b A s ∧ Arr .byte d B s ∧ b ≠ d ∧ o + len ≤ A.slots.size ∧ q + len ≤ B.slots.size ∧ ∀ i, i < len → ¬ 255 < cv A (o + i)
def E (b : Addr) (A : Cell) (d : Addr) (B : Cell) (o q len : Nat) (r : Option Value) (s u : State) : Prop := r = some (.int (Int32.ofNat len)) ∧ ∃ B', Put d B' s u ∧ Laid B B' q (q + len) (fun j => Value.int (lo8 (cv A (o + (j - q)))))
/-- no char of the range above 255: len; the places written hold each char's low byte -/
theorem law (l : Launch) (b : Addr) (A : Cell) (d : Addr) (B : Cell) (o q len : Nat) : Law l yN 5 5 0 0 yB 7 (some .int) site (P b A d B o q len) (E b A d B o q len) (copyLocs d q len) 0 0 := by
  refine Law.of_walk (plainFor_of_name (by decide +kernel)) (by decide +kernel) (by decide +kernel) (by decide) (fun _ _ h => by rw [h.1]; rfl) (fun _ U U' hal hh h => ⟨h.1, h.2.1.mv hal hh, h.2.2.1.mv hal hh, h.2.2.2⟩) (fun r U U' V V' h1 hal h2 h => ⟨h.1, h.2.elim fun B' q => ⟨B', q.1.mv h1 h2, q.2⟩⟩) ?_
  intro p e s m args below meth c s₁ X0 hexec hbytes hml hret hlk hnm hown hh0 W hP
  obtain ⟨rfl, hA, hB, hne, l1, l2, hp⟩ := hP
  have c1 : Steps p.tables e below (s₁.setTop (entryFrame m #[.ref b, .int (Int32.ofNat o), .ref d, .int (Int32.ofNat q), .int (Int32.ofNat len)] 7)) (s₁.setTop (mkF m 0 #[.val (.ref b), .val (.int (Int32.ofNat o)), .val (.ref d), .val (.int (Int32.ofNat q)), .val (.int (Int32.ofNat len)), .unset, .unset] [])) := entry rfl
  have hA0 := hA.1.mv X0.warmed.alike hh0
  have hB0 := hB.mv X0.warmed.alike hh0
  have a31 := hA.1.2.2.2
  have c2 : Steps p.tables e below (s₁.setTop (entryFrame m #[.ref b, .int (Int32.ofNat o), .ref d, .int (Int32.ofNat q), .int (Int32.ofNat len)] 7)) (s₁.setTop (mkF m 3 #[.val (.ref b), .val (.int (Int32.ofNat o)), .val (.ref d), .val (.int (Int32.ofNat q)), .val (.int (Int32.ofNat len)), .val (.int 0), .unset] [])) := c1.trans (by
    refine iconstV X0.here hexec rfl 0 (hb hbytes d0) (by decide) ?_
    refine XS.istore X0.here hexec rfl (hb hbytes d1) rfl rfl ?_
    exact Steps.refl _)
  have loop : ∀ (r i : Nat), i + r = len → ∀ (z : Slot), (z = .unset ∨ ∃ w, z = .val w ∧ w.category = 1) → ∀ (Tl : State) (Bk : Cell), Stand p l e { frames := 0, locals := 0, cells := 0, slots := 0 } s m #[.ref b, .int (Int32.ofNat o), .ref d, .int (Int32.ofNat q), .int (Int32.ofNat len)] below meth c Tl ([] ++ copyLocs d q i) 0 0 → Put d Bk s₁ Tl → Laid B Bk q (q + i) (fun j => Value.int (lo8 (cv A (o + (j - q))))) →
      Steps p.tables e below (s₁.setTop (entryFrame m #[.ref b, .int (Int32.ofNat o), .ref d, .int (Int32.ofNat q), .int (Int32.ofNat len)] 7)) (Tl.setTop (mkF m 3 #[.val (.ref b), .val (.int (Int32.ofNat (o + i))), .val (.ref d), .val (.int (Int32.ofNat (q + i))), .val (.int (Int32.ofNat len)), .val (.int (Int32.ofNat i)), z] [])) → ∃ (T' : State) (B' : Cell) (z' : Slot), Stand p l e { frames := 0, locals := 0, cells := 0, slots := 0 } s m #[.ref b, .int (Int32.ofNat o), .ref d, .int (Int32.ofNat q), .int (Int32.ofNat len)] below meth c T' ([] ++ copyLocs d q len) 0 0 ∧ Put d B' s₁ T' ∧ Laid B B' q (q + len) (fun j => Value.int (lo8 (cv A (o + (j - q))))) ∧
      Steps p.tables e below (s₁.setTop (entryFrame m #[.ref b, .int (Int32.ofNat o), .ref d, .int (Int32.ofNat q), .int (Int32.ofNat len)] 7)) (T'.setTop (mkF m 3 #[.val (.ref b), .val (.int (Int32.ofNat (o + len))), .val (.ref d), .val (.int (Int32.ofNat (q + len))), .val (.int (Int32.ofNat len)), .val (.int (Int32.ofNat len)), z'] [])) := by
    intro r
    induction r with
    | zero =>
      intro i hi z hz Tl Bk Xl pl fl cl
      have hil : i = len := by omega
      rw [hil] at Xl fl cl
      exact ⟨Tl, Bk, z, Xl, pl, fl, cl⟩
    | succ r ih =>
      intro i hi z hz Tl Bk Xl pl fl cl
      have all := X0.warmed.alike.symm.trans Xl.warmed.alike
      have hAl := hA0.keep all (pl.other hne hA0.1)
      have hBk := hB0.like all pl.1 fl.1 fl.2.1 fl.2.2.1
      have hlt : q + i < Bk.slots.size := by rw [fl.2.2.1]; omega
      have c3 : Steps p.tables e below (s₁.setTop (entryFrame m #[.ref b, .int (Int32.ofNat o), .ref d, .int (Int32.ofNat q), .int (Int32.ofNat len)] 7)) (Tl.setTop (mkF m 12 #[.val (.ref b), .val (.int (Int32.ofNat (o + i))), .val (.ref d), .val (.int (Int32.ofNat (q + i))), .val (.int (Int32.ofNat len)), .val (.int (Int32.ofNat i)), z] [.int (Int32.ofNat (o + i)), .ref b])) := cl.trans (by
        refine XS.iload Xl.here hexec rfl (hb hbytes d3) rfl ?_
        refine XS.iload Xl.here hexec rfl (hb hbytes d5) rfl ?_
        refine XS.icmpNo Xl.here hexec rfl (hb hbytes d7) rfl (ii_ge_f (lt32 (by omega) (by omega))) ?_
        refine XS.aloadN Xl.here hexec rfl (hb hbytes d10) rfl rfl ?_
        refine XS.iloadN Xl.here hexec rfl (hb hbytes d11) rfl ?_
        exact Steps.refl _)
      have c4 : Steps p.tables e below (s₁.setTop (entryFrame m #[.ref b, .int (Int32.ofNat o), .ref d, .int (Int32.ofNat q), .int (Int32.ofNat len)] 7)) (Tl.setTop (mkF m 13 #[.val (.ref b), .val (.int (Int32.ofNat (o + i))), .val (.ref d), .val (.int (Int32.ofNat (q + i))), .val (.int (Int32.ofNat len)), .val (.int (Int32.ofNat i)), z] [.int (cv A (o + i))])) := c3.trans (by
        refine Xl.aget hexec hAl rfl (hA.get (i := o + i) (by omega)) rfl rfl (hb hbytes d12) ?_
        exact Steps.refl _)
      have c5 : Steps p.tables e below (s₁.setTop (entryFrame m #[.ref b, .int (Int32.ofNat o), .ref d, .int (Int32.ofNat q), .int (Int32.ofNat len)] 7)) (Tl.setTop (mkF m 15 #[.val (.ref b), .val (.int (Int32.ofNat (o + i))), .val (.ref d), .val (.int (Int32.ofNat (q + i))), .val (.int (Int32.ofNat len)), .val (.int (Int32.ofNat i)), .val (.int (cv A (o + i)))] [])) := c4.trans (by
        refine XS.istoreS Xl.here hexec rfl (hb hbytes d13) rfl rfl hz ?_
        exact Steps.refl _)
      have c6 : Steps p.tables e below (s₁.setTop (entryFrame m #[.ref b, .int (Int32.ofNat o), .ref d, .int (Int32.ofNat q), .int (Int32.ofNat len)] 7)) (Tl.setTop (mkF m 31 #[.val (.ref b), .val (.int (Int32.ofNat (o + i))), .val (.ref d), .val (.int (Int32.ofNat (q + i))), .val (.int (Int32.ofNat len)), .val (.int (Int32.ofNat i)), .val (.int (cv A (o + i)))] [.int (lo8 (cv A (o + i))), .int (Int32.ofNat (q + i)), .ref d])) := c5.trans (by
        refine XS.iload Xl.here hexec rfl (hb hbytes d15) rfl ?_
        refine sipushV Xl.here hexec rfl 255 (hb hbytes d17) (by decide) ?_
        refine XS.icmpYes Xl.here hexec rfl (pc0 := 20) rfl (hb hbytes d20) rfl (ii_le_t (hp i (by omega))) (by decide) rfl ?_
        refine XS.aloadN Xl.here hexec rfl (hb hbytes d26) rfl rfl ?_
        refine XS.iloadN Xl.here hexec rfl (hb hbytes d27) rfl ?_
        refine XS.iload Xl.here hexec rfl (hb hbytes d28) rfl ?_
        refine i2b Xl.here hexec rfl (hb hbytes d30) rfl ?_
        exact Steps.refl _)
      obtain ⟨T7, X7, p7, st7⟩ := Xl.aput hexec hBk rfl hlt rfl (fits_lo8 (cv A (o + i))) (g := (mkF m 31 #[.val (.ref b), .val (.int (Int32.ofNat (o + i))), .val (.ref d), .val (.int (Int32.ofNat (q + i))), .val (.int (Int32.ofNat len)), .val (.int (Int32.ofNat i)), .val (.int (cv A (o + i)))] [.int (lo8 (cv A (o + i))), .int (Int32.ofNat (q + i)), .ref d])) rfl (rest := []) rfl (hb hbytes d31)
      have c8 : Steps p.tables e below (s₁.setTop (entryFrame m #[.ref b, .int (Int32.ofNat o), .ref d, .int (Int32.ofNat q), .int (Int32.ofNat len)] 7)) (T7.setTop (mkF m 32 #[.val (.ref b), .val (.int (Int32.ofNat (o + i))), .val (.ref d), .val (.int (Int32.ofNat (q + i))), .val (.int (Int32.ofNat len)), .val (.int (Int32.ofNat i)), .val (.int (cv A (o + i)))] [])) := c6.trans (st7 _ (Steps.refl _))
      have c9 : Steps p.tables e below (s₁.setTop (entryFrame m #[.ref b, .int (Int32.ofNat o), .ref d, .int (Int32.ofNat q), .int (Int32.ofNat len)] 7)) (T7.setTop (mkF m 3 #[.val (.ref b), .val (.int (Int32.ofNat (o + i) + 1)), .val (.ref d), .val (.int (Int32.ofNat (q + i) + 1)), .val (.int (Int32.ofNat len)), .val (.int (Int32.ofNat i + 1)), .val (.int (cv A (o + i)))] [])) := c8.trans (by
        refine iincV X7.here hexec rfl 1 (hb hbytes d32) (by decide) rfl rfl ?_
        refine iincV X7.here hexec rfl 1 (hb hbytes d35) (by decide) rfl rfl ?_
        refine iincV X7.here hexec rfl 1 (hb hbytes d38) (by decide) rfl rfl ?_
        refine XS.goto X7.here hexec rfl (pc0 := 41) rfl (hb hbytes d41) (by decide) rfl ?_
        exact Steps.refl _)
      have c10 : Steps p.tables e below (s₁.setTop (entryFrame m #[.ref b, .int (Int32.ofNat o), .ref d, .int (Int32.ofNat q), .int (Int32.ofNat len)] 7)) (T7.setTop (mkF m 3 #[.val (.ref b), .val (.int (Int32.ofNat (o + (i + 1)))), .val (.ref d), .val (.int (Int32.ofNat (q + (i + 1)))), .val (.int (Int32.ofNat len)), .val (.int (Int32.ofNat (i + 1))), .val (.int (cv A (o + i)))] [])) := by
        have := c9
        rw [succ32, succ32, succ32] at this
        exact this
      exact ih (i + 1) (by omega) _ (Or.inr ⟨_, rfl, rfl⟩) T7 _ (by rw [copyLocs_step, ← List.append_assoc]; exact X7) (pl.trans p7) (fl.step (by omega) hlt (by simp)) c10
  obtain ⟨T9, B9, z9, X9, p9, f9, g9⟩ := loop len 0 (by omega) .unset (Or.inl rfl) s₁ B (by simpa [copyLocs] using X0) ⟨hB0.1, fun _ _ => rfl, rfl⟩ (Laid.zero _ _ _) c2
  have c11 : Steps p.tables e below (s₁.setTop (entryFrame m #[.ref b, .int (Int32.ofNat o), .ref d, .int (Int32.ofNat q), .int (Int32.ofNat len)] 7)) (T9.setTop (mkF m 46 #[.val (.ref b), .val (.int (Int32.ofNat (o + len))), .val (.ref d), .val (.int (Int32.ofNat (q + len))), .val (.int (Int32.ofNat len)), .val (.int (Int32.ofNat len)), z9] [.int (Int32.ofNat len)])) := g9.trans (by
    refine XS.iload X9.here hexec rfl (hb hbytes d3) rfl ?_
    refine XS.iload X9.here hexec rfl (hb hbytes d5) rfl ?_
    refine XS.icmpYes X9.here hexec rfl (pc0 := 7) rfl (hb hbytes d7) rfl (ii_ge_t (nlt32 (by omega) (Nat.le_refl _))) (by decide) rfl ?_
    refine XS.iload X9.here hexec rfl (hb hbytes d44) rfl ?_
    exact Steps.refl _)
  exact ⟨T9, some (.int (Int32.ofNat len)), _, _, _, X9, by simp, rfl, rfl, (fun h => by cases h), ⟨rfl, B9, p9.from hh0, f9⟩, fun fs hl => c11.trans (X9.ireturnOut hexec hret rfl (Or.inl rfl) (hb hbytes d46) hl)⟩
end Cmp5
namespace Cmp3
def yN : MethodName := ⟨"java/lang/StringUTF16", "compress", "([CII)[B"⟩
abbrev yB : ByteArray := jdk_52_method_16_code
theorem d0 : decode yB 0 = .ok (.iload_n 2, 1) := by decide +kernel
theorem d1 : decode yB 1 = .ok (.newarray .byte, 2) := by decide +kernel
theorem d3 : decode yB 3 = .ok (.astore_n 3, 1) := by decide +kernel
theorem d4 : decode yB 4 = .ok (.aload_n 0, 1) := by decide +kernel
theorem d5 : decode yB 5 = .ok (.iload_n 1, 1) := by decide +kernel
theorem d6 : decode yB 6 = .ok (.aload_n 3, 1) := by decide +kernel
theorem d7 : decode yB 7 = .ok (.iconst 0, 1) := by decide +kernel
theorem d8 : decode yB 8 = .ok (.iload_n 2, 1) := by decide +kernel
theorem d9 : decode yB 9 = .ok (.invokestatic 115, 3) := by decide +kernel
theorem d12 : decode yB 12 = .ok (.istore 4, 2) := by decide +kernel
theorem d14 : decode yB 14 = .ok (.iload 4, 2) := by decide +kernel
theorem d16 : decode yB 16 = .ok (.iload_n 2, 1) := by decide +kernel
theorem d17 : decode yB 17 = .ok (.if_icmp (.eq) 40, 3) := by decide +kernel
theorem d57 : decode yB 57 = .ok (.aload_n 3, 1) := by decide +kernel
theorem d58 : decode yB 58 = .ok (.areturn, 1) := by decide +kernel
def site : List Cond := [.arrayClass .byte, Cmp5.tab] ++ staticW U16 115 Cmp5.yN
def tab : Cond := tabOf yN yB 6 (some (.array .byte)) site
def P (b : Addr) (A : Cell) (o len : Nat) (args : Array Value) (s : State) : Prop := args = #[.ref b, .int (Int32.ofNat o), .int (Int32.ofNat len)] ∧ Ch b A s ∧ o + len ≤ A.slots.size ∧ len ≤ 536870912 ∧ ∀ i, i < len → ¬ 255 < cv A (o + i)
def E (b : Addr) (A : Cell) (o len : Nat) (r : Option Value) (s u : State) : Prop := NewArr .byte "[B" len (fun j => .int (lo8 (cv A (o + j)))) r s u ∧ u.heap.size = s.heap.size + 1
/-- no char of the range above 255: a new byte[] of their low bytes -/
theorem law (l : Launch) (b : Addr) (A : Cell) (o len : Nat) : Law l yN 3 3 1 18 yB 6 (some (.array .byte)) site (P b A o len) (E b A o len) [] 1 len := by
  refine Law.of_walk (plainFor_of_name (by decide +kernel)) (by decide +kernel) (by decide +kernel) (by decide) (fun _ _ h => by rw [h.1]; rfl) (fun _ U U' hal hh h => ⟨h.1, h.2.1.mv hal hh, h.2.2⟩) (fun r U U' V V' h1 hal h2 h => ⟨NewArr.mv r U U' V V' h1 hal h2 h.1, by rw [h1, h2]; exact h.2⟩) ?_
  intro p e s m args below meth c s₁ X0 hexec hbytes hml hret hlk hnm hown hh0 W hP
  obtain ⟨rfl, hA, l1, l2, hp⟩ := hP
  have a31 := hA.1.2.2.2
  have c1 : Steps p.tables e below (s₁.setTop (entryFrame m #[.ref b, .int (Int32.ofNat o), .int (Int32.ofNat len)] 6)) (s₁.setTop (mkF m 0 #[.val (.ref b), .val (.int (Int32.ofNat o)), .val (.int (Int32.ofNat len)), .unset, .unset, .unset] [])) := entry rfl
  have c2 : Steps p.tables e below (s₁.setTop (entryFrame m #[.ref b, .int (Int32.ofNat o), .int (Int32.ofNat len)] 6)) (s₁.setTop (mkF m 1 #[.val (.ref b), .val (.int (Int32.ofNat o)), .val (.int (Int32.ofNat len)), .unset, .unset, .unset] [.int (Int32.ofNat len)])) := c1.trans (by
    refine XS.iloadN X0.here hexec rfl (hb hbytes d0) rfl ?_
    exact Steps.refl _)
  obtain ⟨T3, B3, X3, ba3, bs3, bv3, bh3, bf3, st3⟩ := X0.anew hexec (atype := .byte) (wk W (.arrayClass .byte)) rfl (by show len * 1 ≤ _; omega) (by omega) (g := (mkF m 1 #[.val (.ref b), .val (.int (Int32.ofNat o)), .val (.int (Int32.ofNat len)), .unset, .unset, .unset] [.int (Int32.ofNat len)])) rfl (hb hbytes d1) (rest := []) rfl (Nat.le_refl _) (by show 0 + len ≤ len; omega)
  rw [hh0] at ba3 st3
  have kp3 : XT.Kept s T3 := (XT.Kept.of_eq hh0).push bh3
  have hA3 := hA.keep X3.warmed.alike (kp3 _ _ hA.1.1)
  have hne : b ≠ s.heap.size := hA.1.ne
  have c4 : Steps p.tables e below (s₁.setTop (entryFrame m #[.ref b, .int (Int32.ofNat o), .int (Int32.ofNat len)] 6)) (T3.setTop (mkF m 3 #[.val (.ref b), .val (.int (Int32.ofNat o)), .val (.int (Int32.ofNat len)), .unset, .unset, .unset] [.ref s.heap.size])) := c2.trans (st3 _ (Steps.refl _))
  have c5 : Steps p.tables e below (s₁.setTop (entryFrame m #[.ref b, .int (Int32.ofNat o), .int (Int32.ofNat len)] 6)) (T3.setTop (mkF m 9 #[.val (.ref b), .val (.int (Int32.ofNat o)), .val (.int (Int32.ofNat len)), .val (.ref s.heap.size), .unset, .unset] [.int (Int32.ofNat len), .int 0, .ref s.heap.size, .int (Int32.ofNat o), .ref b])) := c4.trans (by
    refine XS.astoreN X3.here hexec rfl (hb hbytes d3) rfl rfl rfl ?_
    refine XS.aloadN X3.here hexec rfl (hb hbytes d4) rfl rfl ?_
    refine XS.iloadN X3.here hexec rfl (hb hbytes d5) rfl ?_
    refine XS.aloadN X3.here hexec rfl (hb hbytes d6) rfl rfl ?_
    refine iconstV X3.here hexec rfl 0 (hb hbytes d7) (by decide) ?_
    refine XS.iloadN X3.here hexec rfl (hb hbytes d8) rfl ?_
    exact Steps.refl _)
  obtain ⟨v6, T6, X6, E6, g6⟩ := X3.callS hexec (Cmp5.law l b A s.heap.size B3 o 0 len) hown (wks W (staticW U16 115 Cmp5.yN)) (wk W Cmp5.tab) (W := 0) (Nat.le_of_ble_eq_true rfl) (Nat.le_of_ble_eq_true rfl) (Nat.le_refl _) (by show 0 + len + 0 ≤ len; omega) (g := (mkF m 9 #[.val (.ref b), .val (.int (Int32.ofNat o)), .val (.int (Int32.ofNat len)), .val (.ref s.heap.size), .unset, .unset] [.int (Int32.ofNat len), .int (Int32.ofNat 0), .ref s.heap.size, .int (Int32.ofNat o), .ref b])) rfl (by rw [hml]; rfl) c5 (argsL := [.ref b, .int (Int32.ofNat o), .ref s.heap.size, .int (Int32.ofNat 0), .int (Int32.ofNat len)]) (rest := []) rfl rfl (by show 2 * 0 + 0 ≤ _; decide) (hb hbytes d9) (⟨rfl, hA3, ba3, hne, l1, by rw [bs3]; simp, hp⟩)
  obtain ⟨rfl, B6, p6, f6⟩ := E6
  have c7 : Steps p.tables e below (s₁.setTop (entryFrame m #[.ref b, .int (Int32.ofNat o), .int (Int32.ofNat len)] 6)) (T6.setTop (mkF m 12 #[.val (.ref b), .val (.int (Int32.ofNat o)), .val (.int (Int32.ofNat len)), .val (.ref s.heap.size), .unset, .unset] [.int (Int32.ofNat len)])) := g6
  have c8 : Steps p.tables e below (s₁.setTop (entryFrame m #[.ref b, .int (Int32.ofNat o), .int (Int32.ofNat len)] 6)) (T6.setTop (mkF m 58 #[.val (.ref b), .val (.int (Int32.ofNat o)), .val (.int (Int32.ofNat len)), .val (.ref s.heap.size), .val (.int (Int32.ofNat len)), .unset] [.ref s.heap.size])) := c7.trans (by
    refine XS.istore X6.here hexec rfl (hb hbytes d12) rfl rfl ?_
    refine XS.iload X6.here hexec rfl (hb hbytes d14) rfl ?_
    refine XS.iloadN X6.here hexec rfl (hb hbytes d16) rfl ?_
    refine XS.icmpYes X6.here hexec rfl (pc0 := 17) rfl (hb hbytes d17) rfl (ii_eq_t rfl) (by decide) rfl ?_
    refine XS.aloadN X6.here hexec rfl (hb hbytes d57) rfl rfl ?_
    exact Steps.refl _)
  have X8 := X6.wide (L' := []) (cells' := 1) (slots' := len) (fun x hx hlt => by
    simp only [List.nil_append, copyLocs, List.mem_map, List.mem_range] at hx
    obtain ⟨i, -, rfl⟩ := hx
    exact absurd hlt (Nat.lt_irrefl _)) (Nat.le_refl _) (by omega)
  exact ⟨T6, some (.ref s.heap.size), _, _, _, X8, rfl, rfl, rfl, (fun h => by cases h), ⟨⟨rfl, B6, ba3.like (X3.warmed.alike.symm.trans X6.warmed.alike) p6.1 f6.1 f6.2.1 f6.2.2.1, f6.2.1.trans bv3, by rw [X6.warmed.alike.findClass, f6.1]; exact bf3, by rw [f6.2.2.1, bs3]; simp, fun j hj => by rw [f6.2.2.2 j, if_pos (by omega)]; rfl, kp3.put p6 (Nat.le_refl _)⟩, by rw [p6.2.2, bh3, hh0]; simp⟩, fun fs hl => c8.trans (X8.areturnOut hexec rfl hret rfl (hb hbytes d58) hl)⟩
end Cmp3
namespace CodL
def yN : MethodName := ⟨"java/lang/StringUTF16", "coderFromArrayLen", "([BI)B"⟩
abbrev yB : ByteArray := jdk_52_method_15_code
theorem d0 : decode yB 0 = .ok (.iload_n 1, 1) := by decide +kernel
theorem d1 : decode yB 1 = .ok (.aload_n 0, 1) := by decide +kernel
theorem d2 : decode yB 2 = .ok (.arraylength, 1) := by decide +kernel
theorem d3 : decode yB 3 = .ok (.isub, 1) := by decide +kernel
theorem d4 : decode yB 4 = .ok (.bipush 31, 2) := by decide +kernel
theorem d6 : decode yB 6 = .ok (.iushr, 1) := by decide +kernel
theorem d7 : decode yB 7 = .ok (.i2b, 1) := by decide +kernel
theorem d8 : decode yB 8 = .ok (.ireturn, 1) := by decide +kernel
def site : List Cond := []
def tab : Cond := tabOf yN yB 2 (some .byte) site
def P (d : Addr) (B : Cell) (args : Array Value) (s : State) : Prop := args = #[.ref d, .int (Int32.ofNat B.slots.size)] ∧ Arr .byte d B s
def E (r : Option Value) (s u : State) : Prop := XT.PureE (some (.int 0)) r s u
/-- an array as long as the number of chars: LATIN1 -/
theorem law (l : Launch) (d : Addr) (B : Cell) : Law l yN 2 2 0 0 yB 2 (some .byte) site (P d B) E [] 0 0 := by
  refine Law.of_walk (plainFor_of_name (by decide +kernel)) (by decide +kernel) (by decide +kernel) (by decide) (fun _ _ h => by rw [h.1]; rfl) (fun _ U U' hal hh h => ⟨h.1, h.2.mv hal hh⟩) (fun r U U' V V' h1 hal h2 h => XT.PureE.mv r U U' V V' h1 hal h2 h) ?_
  intro p e s m args below meth c s₁ X0 hexec hbytes hml hret hlk hnm hown hh0 W hP
  obtain ⟨rfl, hB⟩ := hP
  have hB0 := hB.mv X0.warmed.alike hh0
  have c1 : Steps p.tables e below (s₁.setTop (entryFrame m #[.ref d, .int (Int32.ofNat B.slots.size)] 2)) (s₁.setTop (mkF m 0 #[.val (.ref d), .val (.int (Int32.ofNat B.slots.size))] [])) := entry rfl
  have c2 : Steps p.tables e below (s₁.setTop (entryFrame m #[.ref d, .int (Int32.ofNat B.slots.size)] 2)) (s₁.setTop (mkF m 2 #[.val (.ref d), .val (.int (Int32.ofNat B.slots.size))] [.ref d, .int (Int32.ofNat B.slots.size)])) := c1.trans (by
    refine XS.iloadN X0.here hexec rfl (hb hbytes d0) rfl ?_
    refine XS.aloadN X0.here hexec rfl (hb hbytes d1) rfl rfl ?_
    exact Steps.refl _)
  have c3 : Steps p.tables e below (s₁.setTop (entryFrame m #[.ref d, .int (Int32.ofNat B.slots.size)] 2)) (s₁.setTop (mkF m 8 #[.val (.ref d), .val (.int (Int32.ofNat B.slots.size))] [.int (lo8 (ushr (Int32.ofNat B.slots.size - Int32.ofNat B.slots.size) 31))])) := c2.trans (by
    refine X0.alen hexec hB0 rfl rfl (hb hbytes d2) ?_
    refine XS.isub X0.here hexec rfl (hb hbytes d3) rfl ?_
    refine bipushV X0.here hexec rfl 31 (hb hbytes d4) (by decide) ?_
    refine iushr X0.here hexec rfl (hb hbytes d6) rfl ?_
    refine i2b X0.here hexec rfl (hb hbytes d7) rfl ?_
    exact Steps.refl _)
  have e0 : lo8 (ushr (Int32.ofNat B.slots.size - Int32.ofNat B.slots.size) 31) = 0 := by rw [Int32.sub_self]; decide
  rw [e0] at c3
  exact ⟨s₁, some (.int 0), _, _, _, X0, rfl, rfl, rfl, (fun h => by cases h), ⟨rfl, hh0⟩, fun fs hl => c3.trans (X0.ireturnOut hexec hret rfl (Or.inr (Or.inr (Or.inl rfl))) (hb hbytes d8) hl)⟩
end CodL
/-- the String at a is Latin-1 over a new byte[] (the heap's one new cell): the low bytes of the len chars of A from o on; every cell but a is kept -/
def Got (a : Addr) (D : Cell) (fV fC : Field) (A : Cell) (o len : Nat) (r : Option Value) (s u : State) : Prop := r = none ∧ ∃ D' V : Cell, Blank "java/lang/String" a D' u ∧ Same D D' [fV.slot, fC.slot] ∧ D'.slots[fV.slot]? = some (.ref s.heap.size) ∧ D'.slots[fC.slot]? = some (.int 0) ∧ Arr .byte s.heap.size V u ∧ V.vm = .none ∧ u.vm.findClass "[B" = some V.cls ∧ V.slots.size = len ∧ (∀ j, j < len → V.slots[j]? = some (.int (lo8 (cv A (o + j))))) ∧ (∀ (y : Addr) (c : Cell), y ≠ a → s.heap[y]? = some c → u.heap[y]? = some c) ∧ u.heap.size = s.heap.size + 1
theorem Got.mv {a : Addr} {D A : Cell} {fV fC : Field} {o len : Nat} : ∀ r (U U' V V' : State), U'.heap = U.heap → V.vm.Alike V'.vm → V'.heap = V.heap → Got a D fV fC A o len r U V → Got a D fV fC A o len r U' V' :=
  fun r U U' V V' h1 hal h2 ⟨e0, D', X, a1, a2, a3, a4, a5, a6, a7, a8, a9, a10, a11⟩ => ⟨e0, D', X, a1.mv hal h2, a2, by rw [h1]; exact a3, a4, by rw [h1]; exact a5.mv hal h2, a6, by rw [hal.findClass]; exact a7, a8, a9, by rw [h1, h2]; exact a10, by rw [h1, h2]; exact a11⟩
namespace New4
def yN : MethodName := ⟨"java/lang/String", "<init>", "([CIILjava/lang/Void;)V"⟩
abbrev yB : ByteArray := jdk_42_method_149_code
theorem d0 : decode yB 0 = .ok (.aload_n 0, 1) := by decide +kernel
theorem d1 : decode yB 1 = .ok (.invokespecial 1, 3) := by decide +kernel
theorem d4 : decode yB 4 = .ok (.iload_n 3, 1) := by decide +kernel
theorem d5 : decode yB 5 = .ok (.ifCond (.ne) 22, 3) := by decide +kernel
theorem d27 : decode yB 27 = .ok (.getstatic 38, 3) := by decide +kernel
theorem d30 : decode yB 30 = .ok (.ifCond (.eq) 28, 3) := by decide +kernel
theorem d33 : decode yB 33 = .ok (.aload_n 1, 1) := by decide +kernel
theorem d34 : decode yB 34 = .ok (.iload_n 2, 1) := by decide +kernel
theorem d35 : decode yB 35 = .ok (.iload_n 3, 1) := by decide +kernel
theorem d36 : decode yB 36 = .ok (.invokestatic 177, 3) := by decide +kernel
theorem d39 : decode yB 39 = .ok (.astore 5, 2) := by decide +kernel
theorem d41 : decode yB 41 = .ok (.aload_n 0, 1) := by decide +kernel
theorem d42 : decode yB 42 = .ok (.aload 5, 2) := by decide +kernel
theorem d44 : decode yB 44 = .ok (.iload_n 3, 1) := by decide +kernel
theorem d45 : decode yB 45 = .ok (.invokestatic 47, 3) := by decide +kernel
theorem d48 : decode yB 48 = .ok (.putfield 15, 3) := by decide +kernel
theorem d51 : decode yB 51 = .ok (.aload_n 0, 1) := by decide +kernel
theorem d52 : decode yB 52 = .ok (.aload 5, 2) := by decide +kernel
theorem d54 : decode yB 54 = .ok (.putfield 9, 3) := by decide +kernel
theorem d57 : decode yB 57 = .ok (.return_, 1) := by decide +kernel
def site : List Cond := [.fieldLink "java/lang/String" 38 "java/lang/String" "COMPACT_STRINGS" "Z", Cmp3.tab, CodL.tab, .laysFinal "java/lang/String" "java/lang/String" "value" "[B", .fieldLink "java/lang/String" 9 "java/lang/String" "value" "[B", .laysFinal "java/lang/String" "java/lang/String" "coder" "B", .fieldLink "java/lang/String" 15 "java/lang/String" "coder" "B"] ++ objW "java/lang/String" 1 ++ staticW "java/lang/String" 177 Cmp3.yN ++ staticW "java/lang/String" 47 CodL.yN
def tab : Cond := tabOf yN yB 6 none site
def P (a : Addr) (D : Cell) (fV fC : Field) (b : Addr) (A : Cell) (z : Int32) (o len : Nat) (args : Array Value) (s : State) : Prop := args = #[.ref a, .ref b, .int (Int32.ofNat o), .int (Int32.ofNat len), .null] ∧ Blank "java/lang/String" a D s ∧ Found "java/lang/String" "value" "[B" fV s ∧ Found "java/lang/String" "coder" "B" fC s ∧ Ch b A s ∧ StaticIs s "java/lang/String" "COMPACT_STRINGS" "Z" (.int z) ∧ ¬ z = 0 ∧ 0 < len ∧ o + len ≤ A.slots.size ∧ len ≤ 536870912 ∧ ∀ i, i < len → ¬ 255 < cv A (o + i)
def E (a : Addr) (D : Cell) (fV fC : Field) (A : Cell) (o len : Nat) (r : Option Value) (s u : State) : Prop := Got a D fV fC A o len r s u
/-- len > 0, no char of the range above 255: a Latin-1 String of their low bytes -/
theorem law (l : Launch) (a : Addr) (D : Cell) (fV fC : Field) (b : Addr) (A : Cell) (z : Int32) (o len : Nat) : Law l yN 5 4 2 35 yB 6 none site (P a D fV fC b A z o len) (E a D fV fC A o len) [⟨a, fC.slot⟩, ⟨a, fV.slot⟩] 1 len := by
  refine Law.of_walk (plainFor_of_name (by decide +kernel)) (by decide +kernel) (by decide +kernel) (by decide) (fun _ _ h => by rw [h.1]; rfl) (fun _ U U' hal hh h => ⟨h.1, h.2.1.mv hal hh, h.2.2.1.al hal, h.2.2.2.1.al hal, h.2.2.2.2.1.mv hal hh, h.2.2.2.2.2.1.there hal hh, h.2.2.2.2.2.2⟩) (fun r U U' V V' h1 hal h2 h => Got.mv r U U' V V' h1 hal h2 h) ?_
  intro p e s m args below meth c s₁ X0 hexec hbytes hml hret hlk hnm hown hh0 W hP
  obtain ⟨rfl, hB, f1, f2, hA, s1, hz, l0, l1, l2, hp⟩ := hP
  have a31 := hA.1.2.2.2
  have c1 : Steps p.tables e below (s₁.setTop (entryFrame m #[.ref a, .ref b, .int (Int32.ofNat o), .int (Int32.ofNat len), .null] 6)) (s₁.setTop (mkF m 0 #[.val (.ref a), .val (.ref b), .val (.int (Int32.ofNat o)), .val (.int (Int32.ofNat len)), .val .null, .unset] [])) := entry rfl
  have c2 : Steps p.tables e below (s₁.setTop (entryFrame m #[.ref a, .ref b, .int (Int32.ofNat o), .int (Int32.ofNat len), .null] 6)) (s₁.setTop (mkF m 1 #[.val (.ref a), .val (.ref b), .val (.int (Int32.ofNat o)), .val (.int (Int32.ofNat len)), .val .null, .unset] [.ref a])) := c1.trans (by
    refine XS.aloadN X0.here hexec rfl (hb hbytes d0) rfl rfl ?_
    exact Steps.refl _)
  obtain ⟨T3, X3, q3, st3⟩ := X0.oinit hexec hown (wks W (objW "java/lang/String" 1)) (g := (mkF m 1 #[.val (.ref a), .val (.ref b), .val (.int (Int32.ofNat o)), .val (.int (Int32.ofNat len)), .val .null, .unset] [.ref a])) rfl (by rw [hml]; rfl) (rest := []) rfl (hb hbytes d1) (W := 0) (by show 2 * 0 + 0 ≤ _; decide) (Nat.le_of_ble_eq_true rfl) (Nat.le_of_ble_eq_true rfl)
  have hh3 := q3.trans hh0
  have c4 : Steps p.tables e below (s₁.setTop (entryFrame m #[.ref a, .ref b, .int (Int32.ofNat o), .int (Int32.ofNat len), .null] 6)) (T3.setTop (mkF m 27 #[.val (.ref a), .val (.ref b), .val (.int (Int32.ofNat o)), .val (.int (Int32.ofNat len)), .val .null, .unset] [])) := (c2.trans (st3 _ (Steps.refl _))).trans (by
    refine XS.iloadN X3.here hexec rfl (hb hbytes d4) rfl ?_
    refine XS.ifYes X3.here hexec rfl (pc0 := 5) rfl (hb hbytes d5) rfl (i0_ne_t (nz32 (by omega) l0)) (by decide) rfl ?_
    exact Steps.refl _)
  obtain ⟨T5, X5, q5, st5⟩ := X3.sget hexec hown (wk W (.fieldLink "java/lang/String" 38 "java/lang/String" "COMPACT_STRINGS" "Z")) s1 (fun _ _ h => by rw [hh3]; exact h) (g := (mkF m 27 #[.val (.ref a), .val (.ref b), .val (.int (Int32.ofNat o)), .val (.int (Int32.ofNat len)), .val .null, .unset] [])) rfl (hb hbytes d27)
  have hh5 := q5.trans hh3
  have c6 : Steps p.tables e below (s₁.setTop (entryFrame m #[.ref a, .ref b, .int (Int32.ofNat o), .int (Int32.ofNat len), .null] 6)) (T5.setTop (mkF m 30 #[.val (.ref a), .val (.ref b), .val (.int (Int32.ofNat o)), .val (.int (Int32.ofNat len)), .val .null, .unset] [.int z])) := c4.trans (st5 _ (Steps.refl _))
  have c7 : Steps p.tables e below (s₁.setTop (entryFrame m #[.ref a, .ref b, .int (Int32.ofNat o), .int (Int32.ofNat len), .null] 6)) (T5.setTop (mkF m 36 #[.val (.ref a), .val (.ref b), .val (.int (Int32.ofNat o)), .val (.int (Int32.ofNat len)), .val .null, .unset] [.int (Int32.ofNat len), .int (Int32.ofNat o), .ref b])) := c6.trans (by
    refine XS.ifNo X5.here hexec rfl (hb hbytes d30) rfl (i0_eq_f hz) ?_
    refine XS.aloadN X5.here hexec rfl (hb hbytes d33) rfl rfl ?_
    refine XS.iloadN X5.here hexec rfl (hb hbytes d34) rfl ?_
    refine XS.iloadN X5.here hexec rfl (hb hbytes d35) rfl ?_
    exact Steps.refl _)
  obtain ⟨v8, T8, X8, E8, g8⟩ := X5.callS hexec (Cmp3.law l b A o len) hown (wks W (staticW "java/lang/String" 177 Cmp3.yN)) (wk W Cmp3.tab) (W := 0) (Nat.le_of_ble_eq_true rfl) (Nat.le_of_ble_eq_true rfl) (Nat.le_refl _) (by show 0 + len ≤ len; omega) (g := (mkF m 36 #[.val (.ref a), .val (.ref b), .val (.int (Int32.ofNat o)), .val (.int (Int32.ofNat len)), .val .null, .unset] [.int (Int32.ofNat len), .int (Int32.ofNat o), .ref b])) rfl (by rw [hml]; rfl) c7 (argsL := [.ref b, .int (Int32.ofNat o), .int (Int32.ofNat len)]) (rest := []) rfl rfl (by show 2 * 0 + 0 ≤ _; decide) (hb hbytes d36) (⟨rfl, hA.mv X5.warmed.alike hh5, l1, l2, hp⟩)
  obtain ⟨e8, z8⟩ := E8
  obtain ⟨rfl, N, n1, n2, n3, n4, n5, n6⟩ := NewArr.mv _ T5 s _ _ hh5.symm (Vm.Alike.refl _) rfl e8
  rw [hh5] at z8
  have hB1 := hB.keep X8.warmed.alike (n6 _ _ hB.1)
  have hne : s.heap.size ≠ a := (Nat.ne_of_lt (Array.getElem?_eq_some_iff.mp hB.1).1).symm
  have c9 : Steps p.tables e below (s₁.setTop (entryFrame m #[.ref a, .ref b, .int (Int32.ofNat o), .int (Int32.ofNat len), .null] 6)) (T8.setTop (mkF m 39 #[.val (.ref a), .val (.ref b), .val (.int (Int32.ofNat o)), .val (.int (Int32.ofNat len)), .val .null, .unset] [.ref s.heap.size])) := g8
  have c10 : Steps p.tables e below (s₁.setTop (entryFrame m #[.ref a, .ref b, .int (Int32.ofNat o), .int (Int32.ofNat len), .null] 6)) (T8.setTop (mkF m 45 #[.val (.ref a), .val (.ref b), .val (.int (Int32.ofNat o)), .val (.int (Int32.ofNat len)), .val .null, .val (.ref s.heap.size)] [.int (Int32.ofNat N.slots.size), .ref s.heap.size, .ref a])) := by
    have hc : Steps p.tables e below (s₁.setTop (entryFrame m #[.ref a, .ref b, .int (Int32.ofNat o), .int (Int32.ofNat len), .null] 6)) (T8.setTop (mkF m 45 #[.val (.ref a), .val (.ref b), .val (.int (Int32.ofNat o)), .val (.int (Int32.ofNat len)), .val .null, .val (.ref s.heap.size)] [.int (Int32.ofNat len), .ref s.heap.size, .ref a])) := c9.trans (by
      refine XS.astore X8.here hexec rfl (hb hbytes d39) rfl rfl rfl ?_
      refine XS.aloadN X8.here hexec rfl (hb hbytes d41) rfl rfl ?_
      refine XS.aload X8.here hexec rfl (hb hbytes d42) rfl rfl ?_
      refine XS.iloadN X8.here hexec rfl (hb hbytes d44) rfl ?_
      exact Steps.refl _)
    rw [n4]; exact hc
  obtain ⟨v11, T11, X11, E11, g11⟩ := X8.callS hexec (CodL.law l s.heap.size N) hown (wks W (staticW "java/lang/String" 47 CodL.yN)) (wk W CodL.tab) (W := 1) (Nat.le_of_ble_eq_true rfl) (Nat.le_of_ble_eq_true rfl) (Nat.le_refl _) (by show 0 + len + 0 ≤ len; omega) (g := (mkF m 45 #[.val (.ref a), .val (.ref b), .val (.int (Int32.ofNat o)), .val (.int (Int32.ofNat len)), .val .null, .val (.ref s.heap.size)] [.int (Int32.ofNat N.slots.size), .ref s.heap.size, .ref a])) rfl (by rw [hml]; rfl) c10 (argsL := [.ref s.heap.size, .int (Int32.ofNat N.slots.size)]) (rest := [.ref a]) rfl rfl (by show 2 * 0 + (1 + 0) ≤ _; decide) (hb hbytes d45) (⟨rfl, n1⟩)
  obtain ⟨rfl, q11⟩ := E11
  have hB11 := hB1.mv (X8.warmed.alike.symm.trans X11.warmed.alike) q11
  have c12 : Steps p.tables e below (s₁.setTop (entryFrame m #[.ref a, .ref b, .int (Int32.ofNat o), .int (Int32.ofNat len), .null] 6)) (T11.setTop (mkF m 48 #[.val (.ref a), .val (.ref b), .val (.int (Int32.ofNat o)), .val (.int (Int32.ofNat len)), .val .null, .val (.ref s.heap.size)] [.int 0, .ref a])) := g11
  obtain ⟨T13, X13, p13, bl13, sl13, st13⟩ := X11.finit hexec hown (wk W (.fieldLink "java/lang/String" 15 "java/lang/String" "coder" "B")) (Or.inr ⟨_, (wk W (.laysFinal "java/lang/String" "java/lang/String" "coder" "B"))⟩) (Or.inl ⟨rfl, hnm⟩) f2 (Or.inl rfl) hB11 (t := .byte) (by decide +kernel) rfl (g := (mkF m 48 #[.val (.ref a), .val (.ref b), .val (.int (Int32.ofNat o)), .val (.int (Int32.ofNat len)), .val .null, .val (.ref s.heap.size)] [.int 0, .ref a])) rfl (rest := []) rfl (hb hbytes d48)
  have c14 : Steps p.tables e below (s₁.setTop (entryFrame m #[.ref a, .ref b, .int (Int32.ofNat o), .int (Int32.ofNat len), .null] 6)) (T13.setTop (mkF m 54 #[.val (.ref a), .val (.ref b), .val (.int (Int32.ofNat o)), .val (.int (Int32.ofNat len)), .val .null, .val (.ref s.heap.size)] [.ref s.heap.size, .ref a])) := (c12.trans (st13 _ (Steps.refl _))).trans (by
    refine XS.aloadN X13.here hexec rfl (hb hbytes d51) rfl rfl ?_
    refine XS.aload X13.here hexec rfl (hb hbytes d52) rfl rfl ?_
    exact Steps.refl _)
  obtain ⟨T15, X15, p15, bl15, sl15, st15⟩ := X13.finit hexec hown (wk W (.fieldLink "java/lang/String" 9 "java/lang/String" "value" "[B")) (Or.inr ⟨_, (wk W (.laysFinal "java/lang/String" "java/lang/String" "value" "[B"))⟩) (Or.inl ⟨rfl, hnm⟩) f1 (Or.inl rfl) bl13 (t := (.array .byte)) (by decide +kernel) rfl (g := (mkF m 54 #[.val (.ref a), .val (.ref b), .val (.int (Int32.ofNat o)), .val (.int (Int32.ofNat len)), .val .null, .val (.ref s.heap.size)] [.ref s.heap.size, .ref a])) rfl (rest := []) rfl (hb hbytes d54)
  have c16 : Steps p.tables e below (s₁.setTop (entryFrame m #[.ref a, .ref b, .int (Int32.ofNat o), .int (Int32.ofNat len), .null] 6)) (T15.setTop (mkF m 57 #[.val (.ref a), .val (.ref b), .val (.int (Int32.ofNat o)), .val (.int (Int32.ofNat len)), .val .null, .val (.ref s.heap.size)] [])) := c14.trans (st15 _ (Steps.refl _))
  have ap := apart (Or.inr ⟨_, (wk W (.laysFinal "java/lang/String" "java/lang/String" "value" "[B"))⟩) (Or.inr ⟨_, (wk W (.laysFinal "java/lang/String" "java/lang/String" "coder" "B"))⟩) f1 f2 (t₁ := .array .byte) (t₂ := .byte) (by decide +kernel) (by decide +kernel) (by decide)
  have al := X8.warmed.alike.symm.trans X15.warmed.alike
  have n7 : T11.heap[s.heap.size]? = some N := by rw [q11]; exact n1.1
  exact ⟨T15, none, _, _, _, X15, by simp, rfl, by omega, (fun _ => rfl), ⟨rfl, _, N, bl15, ((Same.refl D _).set _ (by simp)).set _ (by simp), sl15, (Cell.slots_setSlot_ne _ ap).trans sl13, n1.keep al (p15.other hne (p13.other hne n7)), n2, by rw [al.findClass]; exact n3, n4, n5, fun y c h1 h2 => p15.other h1 (p13.other h1 (by rw [q11]; exact n6 y c h2)), by rw [p15.2.2, p13.2.2, q11]; exact z8⟩, fun fs hl => c16.trans (X15.returnOut hexec hret (hb hbytes d57) hl)⟩
end New4
namespace New1
def yN : MethodName := ⟨"java/lang/String", "<init>", "([C)V"⟩
abbrev yB : ByteArray := jdk_42_method_3_code
theorem d0 : decode yB 0 = .ok (.aload_n 0, 1) := by decide +kernel
theorem d1 : decode yB 1 = .ok (.aload_n 1, 1) := by decide +kernel
theorem d2 : decode yB 2 = .ok (.iconst 0, 1) := by decide +kernel
theorem d3 : decode yB 3 = .ok (.aload_n 1, 1) := by decide +kernel
theorem d4 : decode yB 4 = .ok (.arraylength, 1) := by decide +kernel
theorem d5 : decode yB 5 = .ok (.aconst_null, 1) := by decide +kernel
theorem d6 : decode yB 6 = .ok (.invokespecial 27, 3) := by decide +kernel
theorem d9 : decode yB 9 = .ok (.return_, 1) := by decide +kernel
def site : List Cond := [New4.tab] ++ initW "java/lang/String" 27 New4.yN
def tab : Cond := tabOf yN yB 2 none site
def P (a : Addr) (D : Cell) (fV fC : Field) (b : Addr) (A : Cell) (z : Int32) (args : Array Value) (s : State) : Prop := args = #[.ref a, .ref b] ∧ Blank "java/lang/String" a D s ∧ Found "java/lang/String" "value" "[B" fV s ∧ Found "java/lang/String" "coder" "B" fC s ∧ Ch b A s ∧ StaticIs s "java/lang/String" "COMPACT_STRINGS" "Z" (.int z) ∧ ¬ z = 0 ∧ 0 < A.slots.size ∧ A.slots.size ≤ 536870912 ∧ ∀ i, i < A.slots.size → ¬ 255 < cv A i
def E (a : Addr) (D : Cell) (fV fC : Field) (A : Cell) (r : Option Value) (s u : State) : Prop := Got a D fV fC A 0 A.slots.size r s u
/-- new String(chars), not empty, no char above 255: a Latin-1 String of their low bytes -/
theorem law (l : Launch) (a : Addr) (D : Cell) (fV fC : Field) (b : Addr) (A : Cell) (z : Int32) : Law l yN 2 1 3 52 yB 2 none site (P a D fV fC b A z) (E a D fV fC A) [⟨a, fC.slot⟩, ⟨a, fV.slot⟩] 1 A.slots.size := by
  refine Law.of_walk (plainFor_of_name (by decide +kernel)) (by decide +kernel) (by decide +kernel) (by decide) (fun _ _ h => by rw [h.1]; rfl) (fun _ U U' hal hh h => ⟨h.1, h.2.1.mv hal hh, h.2.2.1.al hal, h.2.2.2.1.al hal, h.2.2.2.2.1.mv hal hh, h.2.2.2.2.2.1.there hal hh, h.2.2.2.2.2.2⟩) (fun r U U' V V' h1 hal h2 h => Got.mv r U U' V V' h1 hal h2 h) ?_
  intro p e s m args below meth c s₁ X0 hexec hbytes hml hret hlk hnm hown hh0 W hP
  obtain ⟨rfl, hB, f1, f2, hA, s1, hz, l0, l2, hp⟩ := hP
  have c1 : Steps p.tables e below (s₁.setTop (entryFrame m #[.ref a, .ref b] 2)) (s₁.setTop (mkF m 0 #[.val (.ref a), .val (.ref b)] [])) := entry rfl
  have c2 : Steps p.tables e below (s₁.setTop (entryFrame m #[.ref a, .ref b] 2)) (s₁.setTop (mkF m 6 #[.val (.ref a), .val (.ref b)] [.null, .int (Int32.ofNat A.slots.size), .int 0, .ref b, .ref a])) := c1.trans (by
    refine XS.aloadN X0.here hexec rfl (hb hbytes d0) rfl rfl ?_
    refine XS.aloadN X0.here hexec rfl (hb hbytes d1) rfl rfl ?_
    refine iconstV X0.here hexec rfl 0 (hb hbytes d2) (by decide) ?_
    refine XS.aloadN X0.here hexec rfl (hb hbytes d3) rfl rfl ?_
    refine X0.alen hexec (hA.1.mv X0.warmed.alike hh0) rfl rfl (hb hbytes d4) ?_
    refine XS.aconstNull X0.here hexec rfl (hb hbytes d5) ?_
    exact Steps.refl _)
  obtain ⟨v3, T3, X3, E3, g3⟩ := X0.callN hexec (New4.law l a D fV fC b A z 0 A.slots.size) rfl hown (wks W (initW "java/lang/String" 27 New4.yN)) (W New4.tab (by simp only [site, List.mem_cons, List.mem_append, true_or, or_true])) (W := 0) (Nat.le_of_ble_eq_true rfl) (Nat.le_of_ble_eq_true rfl) (Nat.le_refl _) (by show 0 + A.slots.size ≤ A.slots.size; omega) (g := (mkF m 6 #[.val (.ref a), .val (.ref b)] [.null, .int (Int32.ofNat A.slots.size), .int (Int32.ofNat 0), .ref b, .ref a])) rfl (by rw [hml]; rfl) c2 (argsL := [.ref b, .int (Int32.ofNat 0), .int (Int32.ofNat A.slots.size), .null]) (rest := []) rfl rfl (by show 2 * 0 + 0 ≤ _; decide) (hb hbytes d6) (⟨rfl, hB.mv X0.warmed.alike hh0, f1.al X0.warmed.alike, f2.al X0.warmed.alike, hA.mv X0.warmed.alike hh0, s1.there X0.warmed.alike hh0, hz, l0, by omega, l2, fun i hi => by rw [Nat.zero_add]; exact hp i hi⟩)
  have e0 := Got.mv _ s₁ s _ _ hh0.symm (Vm.Alike.refl _) rfl E3
  obtain rfl := e0.1
  have c4 : Steps p.tables e below (s₁.setTop (entryFrame m #[.ref a, .ref b] 2)) (T3.setTop (mkF m 9 #[.val (.ref a), .val (.ref b)] [])) := g3
  exact ⟨T3, none, _, _, _, X3, by simp, rfl, by omega, (fun _ => rfl), e0, fun fs hl => c4.trans (X3.returnOut hexec hret (hb hbytes d9) hl)⟩
theorem pays {l : Launch} {R : Room} {p : Program} {e : Env} {below : List Frame} {s : State} {sargs : Array Value} {len W : Nat} (a : Addr) (D : Cell) (fV fC : Field) (b : Addr) (A : Cell) (z : Int32) (htab : tab.before sargs s = true) (hfr : 4 ≤ R.frames) (hlo : W + 65 ≤ R.locals) :
    Back l R p e below s sargs yN len W (fun A₁ a₁ => A₁.cells + 1 ≤ R.cells ∧ A₁.slots + A.slots.size ≤ R.slots ∧ P a D fV fC b A z a₁ A₁.U) (fun A₁ _ v₁ B₁ => E a D fV fC A v₁ A₁.U B₁.U ∧ B₁.locs = A₁.locs ++ [⟨a, fC.slot⟩, ⟨a, fV.slot⟩] ∧ B₁.cells = A₁.cells + 1 ∧ B₁.slots = A₁.slots + A.slots.size) :=
  (law l a D fV fC b A z).pays htab hfr (by omega)
end New1
/-- the byte, read back as charAt reads it, is the char -/
theorem lo8_mask {x : Int32} (h0 : ¬ x < 0) (h1 : ¬ 255 < x) : lo8 x &&& 255 = x := by
  have t : ∀ k : Fin 256, lo8 (Int32.ofNat k.val) &&& 255 = Int32.ofNat k.val := by decide +kernel
  rw [Int32.lt_iff_toInt_lt] at h0 h1
  have e0 : (0 : Int32).toInt = 0 := rfl
  have e1 : (255 : Int32).toInt = 255 := rfl
  obtain ⟨k, hk⟩ : ∃ k : Nat, x.toInt = k := ⟨x.toInt.toNat, by omega⟩
  have hx : x = Int32.ofNat k := Int32.toInt_inj.mp (by rw [hk, Int32.toInt_ofNat_small (by omega)])
  rw [hx]
  exact t ⟨k, by omega⟩
end StrChars
namespace StrChars.Road
open Jvm Sem ClassFile Op Lib Jvm.Stand Jvm.Free Jvm.Free.XT
open Jvm.Lib.Cold (StaticIs)
abbrev ST : String := "java/lang/String"
/-- every table word that New1's law asks, flat -/
abbrev words : List Jvm.Cond := [.code New1.yN New1.yB 2 none, .initialized ST, .methodLink ST 27 New4.yN, .instanceMethod New4.yN,
  .code New4.yN New4.yB 6 none, .fieldLink ST 38 ST "COMPACT_STRINGS" "Z", .laysFinal ST ST "value" "[B", .fieldLink ST 9 ST "value" "[B", .laysFinal ST ST "coder" "B", .fieldLink ST 15 ST "coder" "B",
  .methodLink ST 1 Lib.objectInit, .instanceMethod Lib.objectInit, .code Lib.objectInit ⟨#[0xb1]⟩ 1 none, .methodLink ST 177 Cmp3.yN, .static Cmp3.yN, .methodLink ST 47 CodL.yN, .static CodL.yN,
  .code Cmp3.yN Cmp3.yB 6 (some (.array .byte)), .initialized U16, .arrayClass .byte, .methodLink U16 115 Cmp5.yN, .static Cmp5.yN, .code Cmp5.yN Cmp5.yB 7 (some .int), .code CodL.yN CodL.yB 2 (some .byte)]
theorem tab_of {a : Array Value} {s : State} (h : ∀ w ∈ words, w.before a s = true) : New1.tab.before a s = true := by
  have h5 : Cmp5.tab.before a s = true := unparts (wk h (.code Cmp5.yN Cmp5.yB 7 (some .int))) (wks h (.initialized Cmp5.yN.cls :: Cmp5.site))
  have hc : CodL.tab.before a s = true := unparts (wk h (.code CodL.yN CodL.yB 2 (some .byte))) (wks h (.initialized CodL.yN.cls :: CodL.site))
  have q5 : ∀ w ∈ Cmp5.tab :: words, w.before a s = true := fun w hw => (List.mem_cons.mp hw).elim (fun e => e ▸ h5) (h w)
  have h3 : Cmp3.tab.before a s = true := unparts (wk q5 (.code Cmp3.yN Cmp3.yB 6 (some (.array .byte)))) (wks q5 (.initialized Cmp3.yN.cls :: Cmp3.site))
  have q3 : ∀ w ∈ Cmp3.tab :: CodL.tab :: words, w.before a s = true := fun w hw => (List.mem_cons.mp hw).elim (fun e => e ▸ h3) fun hw => (List.mem_cons.mp hw).elim (fun e => e ▸ hc) (h w)
  have h4 : New4.tab.before a s = true := unparts (wk q3 (.code New4.yN New4.yB 6 none)) (wks q3 (.initialized New4.yN.cls :: New4.site))
  have q4 : ∀ w ∈ New4.tab :: words, w.before a s = true := fun w hw => (List.mem_cons.mp hw).elim (fun e => e ▸ h4) (h w)
  exact unparts (wk q4 (.code New1.yN New1.yB 2 none)) (wks q4 (.initialized New1.yN.cls :: New1.site))
/-- the words ride from the start Z to the walk's own state -/
theorem moved {Z s : State} {a0 args : Array Value} (hZ : Z.Warmed39 s.vm) (hw : ∀ d ∈ words, d.before a0 Z = true) : ∀ d ∈ words, d.before args s = true := fun d hd => by
  have q := hw d hd
  have t : ∀ d ∈ words, d = .arrayClass .byte ∨ (d.onTables && d.keepsFace) = true := by decide +kernel
  rcases t d hd with rfl | t
  · exact RoadKit.mvA hZ q
  · exact RoadKit.mv hZ q t
/-- WHAT COMES BACK, over the tables of the start Z: h the heap at the call, h' behind it -/
def Q (Z : State) (x : Addr) (A : Cell) (h : Heap) (v : Option Value) (h' : Heap) (L : List Loc) : Prop := v = none ∧ (∀ y ∈ L, y.base = x) ∧ RoadKit.Keep h h' [x] ∧ h'.size = h.size + 1 ∧ RoadKit.Exa Z h' x ST ∧ RoadKit.Fld Z h' x ST "value" "[B" (.ref h.size) ∧ RoadKit.Fld Z h' x ST "coder" "B" (.int 0) ∧
  (∃ V : Cell, RoadKit.Arr Z h' h.size V .byte ∧ V.vm = .none ∧ Z.vm.findClass "[B" = some V.cls ∧ V.slots.size = A.slots.size ∧ ∀ j, j < A.slots.size → V.slots[j]? = some (.int (lo8 (cv A j)))) ∧
  ∀ (O n d : String) (w : Value), RoadKit.Fld Z h x O n d w → RoadKit.slotOf Z O n d ≠ RoadKit.slotOf Z ST "value" "[B" → RoadKit.slotOf Z O n d ≠ RoadKit.slotOf Z ST "coder" "B" → RoadKit.Fld Z h' x O n d w
/-- **new String(chars) AT A CALL, IN THE ROAD'S FORM**: for specialBack behind newO: x the fresh String, b the char[] with the cell A -/
theorem back {p : Program} {l : Launch} {e : Env} {R : Room} {s : State} {args : Array Value} {below : List Frame} {len W : Nat} {Z : State} {a0 : Array Value} {h : Heap} (hZ : Z.Warmed39 s.vm) (hw : ∀ d ∈ words, d.before a0 Z = true) {kI : Nat} (wi : (Jvm.Cond.instantiable ST kI).before a0 Z = true)
    {x b : Addr} {A : Cell} {z : Int32} {v0 c0 : Value} (E : RoadKit.Exa Z h x ST) (V : RoadKit.Fld Z h x ST "value" "[B" v0) (C : RoadKit.Fld Z h x ST "coder" "B" c0) (K : RoadKit.Arr Z h b A .char) (hty : Typed .char A) (S : RoadKit.Sta Z h ST "COMPACT_STRINGS" "Z" (.int z)) (hz : ¬ z = 0)
    (l0 : 0 < A.slots.size) (l2 : A.slots.size ≤ 536870912) (hp : ∀ i, i < A.slots.size → ¬ 255 < cv A i) (hfr : 4 ≤ R.frames) (hlo : W + 65 ≤ R.locals) :
    Back l R p e below s args New1.yN len W (fun P a => a = #[.ref x, .ref b] ∧ P.U.heap = h ∧ P.cells + 1 ≤ R.cells ∧ P.slots + A.slots.size ≤ R.slots)
      (fun P _ v B => ∃ L, Q Z x A h v B.U.heap L ∧ B.locs = P.locs ++ L ∧ B.cells = P.cells + 1 ∧ B.slots = P.slots + A.slots.size) := by
  intro m meth c P g ig mk a X hg hsize hdg hW hn hp'
  obtain ⟨rfl, rfl, r1, r2⟩ := hp'
  have al : Z.vm.Alike P.U.vm := hZ.alike.trans X.warmed.alike
  obtain ⟨D, cfV, kV, iV, fV, hD, gV, stV, knV, obV, asV, slV⟩ := id V
  obtain ⟨D', cfC, kC, iC, fC, hD', gC, stC, -, -, asC, slC⟩ := id C
  cases hD.symm.trans hD'
  obtain ⟨D2, kD, e1, e2, e3, e4, e5⟩ := id E
  cases hD.symm.trans e1
  obtain ⟨c2, k2, i1, i2, i3, -⟩ := Cond.instantiable_spec wi
  cases e2.symm.trans i1
  cases e3.symm.trans i2
  obtain ⟨kU, u1, u2⟩ := al.2.2 _ _ e3
  have hB : Blank ST x D P.U := ⟨hD, ⟨knV, fun q hq => by rw [hq] at obV; cases obV⟩, by rw [al.findClass]; exact e2, kU, u1, by rw [u2]; exact i3, by rw [u2]; exact e5 i3⟩
  have F1 : Found ST "value" "[B" fV P.U := ⟨SBG.found_only al ⟨cfV, kV, iV, gV⟩, stV⟩
  have F2 : Found ST "coder" "B" fC P.U := ⟨SBG.found_only al ⟨cfC, kC, iC, gC⟩, stC⟩
  have hA : Ch b A P.U := ⟨⟨K.1, State.isArrayOf_alike al K.2.1, K.2.2, by omega⟩, hty⟩
  have hS : StaticIs P.U ST "COMPACT_STRINGS" "Z" (.int z) := by
    obtain ⟨cfS, iS, kS, fS, st, cS, t1, t2, t3, t4, t5, t6, t7⟩ := S
    exact StaticIs.there (s := { Z with heap := P.U.heap }) ⟨cfS, iS, kS, fS, st, cS, t1, t2, t3, t4, t5, (fun q => by rw [q] at t6; cases t6), t7⟩ al rfl
  obtain ⟨v, B, X', ⟨⟨hv, E', V', q1, q2, q3, q4, q5, q6, q7, q8, q9, q10, q11⟩, hl, hc, hs⟩, st⟩ := New1.pays x D fV fC b A z (tab_of (moved hZ hw)) hfr hlo m meth c P g ig mk _ X hg hsize hdg hW hn ⟨r1, r2, rfl, hB, F1, F2, hA, hS, hz, l0, l2, hp⟩
  have al' : Z.vm.Alike B.U.vm := hZ.alike.trans X'.warmed.alike
  have hsz : E'.slots.size = D.slots.size := by
    obtain ⟨-, -, -, kB, w1, w2, w3⟩ := q1
    obtain ⟨kB', y1, y2⟩ := al'.2.2 _ _ e3
    rw [q2.2.1] at w1
    cases w1.symm.trans y1
    rw [w3, e5 i3, y2]
  refine ⟨v, B, X', ⟨_, ⟨hv, ?_, ⟨by omega, fun y cy hy hn' => q10 y cy (by simpa using hn') hy, fun y cy hy => ?_⟩, q11, ⟨E', _, q1.1, by rw [q2.2.1]; exact e2, by rw [q2.2.1]; exact e3, by rw [q2.1]; exact obV, fun _ => by rw [hsz]; exact e5 i3⟩,
    ⟨E', cfV, kV, iV, fV, q1.1, gV, stV, by rw [q2.1]; exact knV, by rw [q2.1]; exact obV, by rw [q2.2.1]; exact asV, q3⟩, ⟨E', cfC, kC, iC, fC, q1.1, gC, stC, by rw [q2.1]; exact knV, by rw [q2.1]; exact obV, by rw [q2.2.1]; exact asC, q4⟩,
    ⟨V', ⟨q5.1, State.isArrayOf_alike al'.symm q5.2.1, q5.2.2.1⟩, q6, by rw [← al'.findClass]; exact q7, q8, fun j hj => by have := q9 j hj; rwa [Nat.zero_add] at this⟩, fun O n d w F n1 n2 => ?_⟩, hl, hc, hs⟩, st⟩
  · intro y hy
    simp only [List.mem_cons, List.not_mem_nil, or_false] at hy
    rcases hy with rfl | rfl <;> rfl
  · by_cases q : y = x
    · subst q
      cases hD.symm.trans hy
      exact ⟨E', q1.1, q2.2.1, q2.1, hsz⟩
    · exact ⟨cy, q10 y cy q hy, rfl, rfl, rfl⟩
  · obtain ⟨D3, cf, k, i, f, g1, g2, g3, g4, g5, g6, g7⟩ := F
    cases hD.symm.trans g1
    simp only [RoadKit.slotOf, g2, gV, gC, Option.map_some, Option.getD_some] at n1 n2
    exact ⟨E', cf, k, i, f, q1.1, g2, g3, by rw [q2.1]; exact g4, by rw [q2.1]; exact g5, by rw [q2.2.1]; exact g6, by rw [q2.2.2 f.slot (by simp [n1, n2])]; exact g7⟩
end StrChars.Road
namespace StrChars.Road
open Jvm Sem ClassFile Op Lib Jvm.Stand Jvm.Free Jvm.Free.XT
/-- WHAT COMES BACK, the byte[] as a list of values -/
def QA (Z : State) (x : Addr) (zn : Int32) (cs : List Int32) (h : Heap) (v : Option Value) (h' : Heap) (L : List Loc) : Prop := v = none ∧ (∀ y ∈ L, y.base = x) ∧ RoadKit.Keep h h' [x] ∧ h'.size = h.size + 1 ∧ RoadKit.Exa Z h' x ST ∧ RoadKit.Fld Z h' x ST "value" "[B" (.ref h.size) ∧ RoadKit.Fld Z h' x ST "coder" "B" (.int 0) ∧
  (∃ kb, Z.vm.findClass "[B" = some kb ∧ RoadKit.Arv Z h' h.size kb .byte zn (cs.map fun c => .int (lo8 c)) (.int 0)) ∧
  ∀ (O n d : String) (w : Value), RoadKit.Fld Z h x O n d w → RoadKit.slotOf Z O n d ≠ RoadKit.slotOf Z ST "value" "[B" → RoadKit.slotOf Z O n d ≠ RoadKit.slotOf Z ST "coder" "B" → RoadKit.Fld Z h' x O n d w
/-- **new String(chars) AT A CALL, THE ARRAYS AS LISTS**: the char[] at b holds cs, not empty, no char above 255 -/
theorem backArv {p : Program} {l : Launch} {e : Env} {R : Room} {s : State} {args : Array Value} {below : List Frame} {len W : Nat} {Z : State} {a0 : Array Value} {h : Heap} (hZ : Z.Warmed39 s.vm) (hw : ∀ d ∈ words, d.before a0 Z = true) {kI : Nat} (wi : (Jvm.Cond.instantiable ST kI).before a0 Z = true)
    {x b : Addr} {k : ClassId} {zn z : Int32} {cs : List Int32} {dv v0 c0 : Value} (E : RoadKit.Exa Z h x ST) (V : RoadKit.Fld Z h x ST "value" "[B" v0) (C : RoadKit.Fld Z h x ST "coder" "B" c0) (K : RoadKit.Arv Z h b k .char zn (cs.map Value.int) dv) (S : RoadKit.Sta Z h ST "COMPACT_STRINGS" "Z" (.int z)) (hz : ¬ z = 0)
    (hlen : zn.toNatClampNeg = cs.length) (h0 : 0 < cs.length) (hbig : cs.length ≤ 536870912) (hall : ∀ c ∈ cs, ¬ 255 < c) (hfr : 4 ≤ R.frames) (hlo : W + 65 ≤ R.locals) :
    Back l R p e below s args New1.yN len W (fun P a => a = #[.ref x, .ref b] ∧ P.U.heap = h ∧ P.cells + 1 ≤ R.cells ∧ P.slots + cs.length ≤ R.slots)
      (fun P _ v B => ∃ L, QA Z x zn cs h v B.U.heap L ∧ B.locs = P.locs ++ L ∧ B.cells = P.cells + 1 ∧ B.slots = P.slots + cs.length) := by
  obtain ⟨A, K1, K2, K3, K4, K5, K6⟩ := K
  have e : A.slots.size = cs.length := K3.trans hlen
  have hat : ∀ (i : Nat) (hi : i < cs.length), A.slots[i]? = some (.int cs[i]) := fun i hi => by rw [K5 i (by omega)]; simp [List.getD_eq_getElem?_getD, hi]
  have hcv : ∀ (i : Nat) (hi : i < cs.length), cv A i = cs[i] := fun i hi => by unfold cv; rw [hat i hi]
  have hty : Typed .char A := fun i v hv => by
    have hi : i < A.slots.size := (Array.getElem?_eq_some_iff.mp hv).1
    have q := K5 i hi
    rw [hv] at q
    rw [Option.some.inj q]
    exact K6 i hi
  refine Back.mono (back hZ hw wi E V C K1 hty S hz (by omega) (by omega) (fun i hi => by rw [hcv i (by omega)]; exact hall _ (List.getElem_mem _)) hfr hlo) (fun P a hp => ⟨hp.1, hp.2.1, hp.2.2.1, by rw [e]; exact hp.2.2.2⟩) (fun P a v B hp hq => ?_)
  obtain ⟨L, ⟨q1, q2, q3, q4, q5, q6, q7, ⟨V', v1, v2, v3, v4, v5⟩, q9⟩, hl, hc, hs⟩ := hq
  refine ⟨L, ⟨q1, q2, q3, q4, q5, q6, q7, ⟨V'.cls, v3, V', v1, rfl, by rw [v4, e, hlen], K4, fun i hi => ?_, fun i hi => ?_⟩, q9⟩, hl, hc, by rw [hs, e]⟩
  · have hi' : i < cs.length := by omega
    rw [v5 i (by omega), hcv i hi']; simp [List.getD_eq_getElem?_getD, hi']
  · have hi' : i < cs.length := by omega
    simp only [List.getD_eq_getElem?_getD, List.getElem?_map, List.getElem?_eq_getElem hi', Option.map_some, Option.getD_some]
    exact fits_lo8 _
end StrChars.Road
namespace StrChars.Road
open Jvm Sem ClassFile Op Lib Jvm.Stand Jvm.Free Jvm.Free.XT
/-- WHAT COMES BACK, in the writer's own shape -/
def QV (Z : State) (x : Addr) (N : Int32) (bs : List Int32) (h : Heap) (n0 : Nat) (v : Option Value) (h' : Heap) (L : List Loc) : Prop := v = none ∧ RoadKit.Fr n0 L ∧ RoadKit.Keep h h' [x] ∧ RoadKit.Exa Z h' x ST ∧ RoadKit.Fld Z h' x ST "coder" "B" (.int 0) ∧
  ∃ (t : Addr) (kb : ClassId), n0 ≤ t ∧ h.size ≤ t ∧ ¬ t = x ∧ RoadKit.Fld Z h' x ST "value" "[B" (.ref t) ∧ RoadKit.Arv Z h' t kb .byte N (bs.map Value.int) (.int 0)
/-- **new String(chars) AT A CALL, FOR THE WRITER**: a char[] of n known ints, each 0 to 255 -/
theorem backV {p : Program} {l : Launch} {e : Env} {R : Room} {s : State} {args : Array Value} {below : List Frame} {len W : Nat} {Z : State} {a0 : Array Value} {h : Heap} (hZ : Z.Warmed39 s.vm) (hw : ∀ d ∈ words, d.before a0 Z = true) {kI : Nat} (wi : (Jvm.Cond.instantiable ST kI).before a0 Z = true)
    {x b : Addr} {kC : ClassId} {cs bs : List Int32} {d v0 c0 : Value} {z N : Int32} {n n0 : Nat} (hx0 : n0 ≤ x) (hh0 : n0 ≤ h.size) (E : RoadKit.Exa Z h x ST) (V : RoadKit.Fld Z h x ST "value" "[B" v0) (C : RoadKit.Fld Z h x ST "coder" "B" c0) (K : RoadKit.Arv Z h b kC .char N (cs.map Value.int) d) (S : RoadKit.Sta Z h ST "COMPACT_STRINGS" "Z" (.int z)) (hz : ¬ z = 0)
    (hn : cs.length = n) (hN : N = Int32.ofNat n) (l0 : 0 < n) (l2 : n ≤ 4000) (hp : ∀ c ∈ cs, ¬ c < 0 ∧ ¬ (255 : Int32) < c) (hb : bs = cs.map (fun c => c.toInt8.toInt32)) (hfr : 4 ≤ R.frames) (hlo : W + 65 ≤ R.locals) :
    Back l R p e below s args (⟨"java/lang/String", "<init>", "([C)V"⟩ : MethodName) len W (fun P a => a = #[.ref x, .ref b] ∧ P.U.heap = h ∧ P.cells + 1 ≤ R.cells ∧ P.slots + n ≤ R.slots)
      (fun P _ v B => ∃ L, QV Z x N bs h n0 v B.U.heap L ∧ B.locs = P.locs ++ L ∧ B.cells = P.cells + 1 ∧ B.slots = P.slots + n) := by
  subst hn hN hb
  refine Back.mono (backArv hZ hw wi E V C K S hz (n32 (by omega)) l0 (by omega) (fun c hc => (hp c hc).2) hfr hlo) (fun P a hp => hp) (fun P a v B hp hq => ?_)
  obtain ⟨L, ⟨q1, q2, q3, q4, q5, q6, q7, ⟨kb, v1, v2⟩, q9⟩, hl, hc, hs⟩ := hq
  exact ⟨L, ⟨q1, fun y hy => by rw [q2 y hy]; exact hx0, q3, q5, q7, h.size, kb, hh0, Nat.le_refl _, Nat.ne_of_gt E.lt, q6, by rw [List.map_map]; exact v2⟩, hl, hc, hs⟩
end StrChars.Road
namespace StrChars
open Jvm Sem ClassFile Op Lib Jvm.Stand Jvm.Free.XT Jvm.Free.ALB Jvm.Free.JM Jvm.Free
open Jvm.Lib.Cold (StaticIs)
def hi8 (x : Int32) : Int32 := lo8 (x >>> ((8 : Int32) &&& 31))
/-- what StringUTF16.getChar makes of two bytes -/
def pairCh (u v : Int32) : Int32 := (((u &&& 255) <<< ((0 : Int32) &&& 31)) ||| ((v &&& 255) <<< ((8 : Int32) &&& 31))).toUInt32.toUInt16.toUInt32.toInt32
theorem shr0 (c : Int32) : c >>> ((0 : Int32) &&& 31) = c := by
  have e : ((0 : Int32) &&& 31) = 0 := by decide
  rw [e]
  apply Int32.toBitVec_inj.mp
  rw [Int32.toBitVec_shiftRight]
  have e1 : ((0 : Int32).toBitVec.smod 32) = 0#32 := by decide
  rw [e1, BitVec.sshiftRight_eq']
  exact BitVec.sshiftRight_zero
theorem lo8_and (x : Int32) : (lo8 x &&& 255).toBitVec.toNat = x.toBitVec.toNat % 256 := by
  have h : (lo8 x).toBitVec = (x.toBitVec.signExtend 8).signExtend 32 := by rw [lo8, Int8.toBitVec_toInt32, Int32.toBitVec_toInt8]
  rw [Int32.toBitVec_and, BitVec.toNat_and, h]
  have e : ((x.toBitVec.signExtend 8).signExtend 32).toNat % 256 = x.toBitVec.toNat % 256 := by
    rw [BitVec.toNat_signExtend]
    have hlt := x.toBitVec.isLt
    simp only [BitVec.toNat_setWidth, BitVec.toNat_signExtend]
    split <;> split <;> omega
  rw [← e]
  exact Nat.and_two_pow_sub_one_eq_mod _ 8
theorem pair_says {c : Int32} (h0 : ¬ c < 0) (h1 : ¬ 65535 < c) : pairCh (lo8 c) (hi8 c) = c := by
  rw [Int32.lt_iff_toInt_lt] at h0 h1
  have e0 : (0 : Int32).toInt = 0 := rfl
  have e1 : (65535 : Int32).toInt = 65535 := rfl
  have hc : c.toInt = c.toBitVec.toNat := by
    have := c.toBitVec.isLt
    have e : c.toInt = c.toBitVec.toInt := rfl
    rw [e] at h0 h1
    rw [e]
    rw [BitVec.toInt_eq_toNat_cond] at h0 h1 ⊢
    split at h0 <;> split <;> omega
  have hn : c.toBitVec.toNat < 65536 := by omega
  have a1 := lo8_and c
  have a2 : (hi8 c &&& 255).toBitVec.toNat = c.toBitVec.toNat / 256 := by
    rw [hi8, lo8_and]
    have e : ((8 : Int32) &&& 31) = 8 := by decide
    rw [e, Int32.toBitVec_shiftRight]
    have e2 : ((8 : Int32).toBitVec.smod 32) = 8#32 := by decide
    rw [e2, BitVec.sshiftRight_eq', BitVec.toNat_sshiftRight_of_msb_false (by rw [BitVec.msb_eq_false_iff_two_mul_lt]; omega)]
    show c.toBitVec.toNat >>> 8 % 256 = _
    rw [Nat.shiftRight_eq_div_pow]
    omega
  unfold pairCh
  apply Int32.toBitVec_inj.mp
  apply BitVec.eq_of_toNat_eq
  have f0 : ((0 : Int32) &&& 31) = 0 := by decide
  have f8 : ((8 : Int32) &&& 31) = 8 := by decide
  rw [f0, f8]
  have g : (((lo8 c &&& 255) <<< (0 : Int32)) ||| ((hi8 c &&& 255) <<< (8 : Int32))).toBitVec.toNat = c.toBitVec.toNat := by
    rw [Int32.toBitVec_or, Int32.toBitVec_shiftLeft, Int32.toBitVec_shiftLeft]
    have s0 : ((0 : Int32).toBitVec.smod 32) = 0#32 := by decide
    have s8 : ((8 : Int32).toBitVec.smod 32) = 8#32 := by decide
    rw [s0, s8, BitVec.toNat_or]
    simp only [BitVec.shiftLeft_eq', BitVec.toNat_shiftLeft, a1, a2]
    show (c.toBitVec.toNat % 256) <<< 0 % 2 ^ 32 ||| (c.toBitVec.toNat / 256) <<< 8 % 2 ^ 32 = _
    rw [Nat.shiftLeft_zero, Nat.mod_eq_of_lt (show c.toBitVec.toNat % 256 < 2 ^ 32 by omega), Nat.mod_eq_of_lt (show (c.toBitVec.toNat / 256) <<< 8 < 2 ^ 32 by rw [Nat.shiftLeft_eq]; omega), Nat.or_comm, ← Nat.shiftLeft_add_eq_or_of_lt (by omega), Nat.shiftLeft_eq]
    omega
  show BitVec.toNat (((((lo8 c &&& 255) <<< (0 : Int32)) ||| ((hi8 c &&& 255) <<< (8 : Int32))).toBitVec.setWidth 16).setWidth 32) = _
  rw [BitVec.toNat_setWidth, BitVec.toNat_setWidth, g]
  omega
end StrChars
namespace StrChars
open Jvm Sem ClassFile Op Lib Jvm.Stand Jvm.Free.XT Jvm.Free.ALB Jvm.Free.JM Jvm.Free
open Jvm.Lib.Cold (StaticIs)
theorem shr1 {n : Nat} (h : 2 * n < 2 ^ 31) : Int32.ofNat (2 * n) >>> ((1 : Int32) &&& 31) = Int32.ofNat n := by
  have e : ((1 : Int32) &&& 31) = 1 := by decide
  rw [e]
  apply Int32.toBitVec_inj.mp
  rw [Int32.toBitVec_shiftRight]
  have e1 : ((1 : Int32).toBitVec.smod 32) = 1#32 := by decide
  have hm : (BitVec.ofNat 32 (2 * n)).toNat = 2 * n := by rw [BitVec.toNat_ofNat, Nat.mod_eq_of_lt (by omega)]
  rw [e1, BitVec.sshiftRight_eq']
  apply BitVec.eq_of_toNat_eq
  show ((BitVec.ofNat 32 (2 * n)).sshiftRight 1).toNat = (BitVec.ofNat 32 n).toNat
  rw [BitVec.toNat_sshiftRight_of_msb_false (by rw [BitVec.msb_eq_false_iff_two_mul_lt, hm]; omega), hm, BitVec.toNat_ofNat, Nat.shiftRight_eq_div_pow]
  omega
/-- charAt's cast of a byte read back -/
def chr8 (u : Int32) : Int32 := (u &&& 255).toUInt32.toUInt16.toUInt32.toInt32
theorem chr8_lo8 {c : Int32} (h0 : ¬ c < 0) (h1 : ¬ 255 < c) : chr8 (lo8 c) = c := by
  have t : ∀ k : Fin 256, (Int32.ofNat k.val).toUInt32.toUInt16.toUInt32.toInt32 = Int32.ofNat k.val := by decide +kernel
  unfold chr8
  rw [lo8_mask h0 h1]
  rw [Int32.lt_iff_toInt_lt] at h0 h1
  have e0 : (0 : Int32).toInt = 0 := rfl
  have e1 : (255 : Int32).toInt = 255 := rfl
  obtain ⟨k, hk⟩ : ∃ k : Nat, c.toInt = k := ⟨c.toInt.toNat, by omega⟩
  have hx : c = Int32.ofNat k := Int32.toInt_inj.mp (by rw [hk, Int32.toInt_ofNat_small (by omega)])
  rw [hx]
  exact t ⟨k, by omega⟩
theorem narrow_ch {c : Int32} (h0 : ¬ c < 0) (h1 : ¬ 65535 < c) : narrow .char (.int c) = .int c := by
  have q : narrow .char (.int (pairCh (lo8 c) (hi8 c))) = .int (pairCh (lo8 c) (hi8 c)) := narrow_c _
  rwa [pair_says h0 h1] at q
/-- the array's cell V codes the n chars f 0 .. f (n - 1) by the coder cd, as the JDK does: coder 1 just where some char is above 255 -/
def Cod (cd : Int32) (n : Nat) (f : Nat → Int32) (V : Cell) : Prop := (cd = 0 ∧ V.slots.size = n ∧ ∀ j, j < n → V.slots[j]? = some (.int (lo8 (f j))) ∧ ¬ 255 < f j) ∨ (cd = 1 ∧ V.slots.size = 2 * n ∧ (∀ j, j < n → V.slots[2 * j]? = some (.int (lo8 (f j))) ∧ V.slots[2 * j + 1]? = some (.int (hi8 (f j)))) ∧ ∃ j, j < n ∧ 255 < f j)
theorem Cod.cd {cd : Int32} {n : Nat} {f : Nat → Int32} {V : Cell} (h : Cod cd n f V) : cd = 0 ∨ cd = 1 := h.imp (fun q => q.1) fun q => q.1
theorem Cod.len {cd : Int32} {n : Nat} {f : Nat → Int32} {V : Cell} (h : Cod cd n f V) (hs : V.slots.size < 2 ^ 31) : Int32.ofNat V.slots.size >>> (cd &&& 31) = Int32.ofNat n := by
  rcases h with ⟨rfl, h, -⟩ | ⟨rfl, h, -⟩
  · rw [shr0, h]
  · rw [h, shr1 (by omega)]
/-- **x is a String of the n chars f 0 .. f (n - 1)**, Latin-1 or UTF-16; its array at t has the cell V -/
def Txt (x t : Addr) (V : Cell) (cd : Int32) (n : Nat) (f : Nat → Int32) (U : State) : Prop := Exact "java/lang/String" x U ∧ Has x "java/lang/String" "value" "[B" (.ref t) U ∧ Has x "java/lang/String" "coder" "B" (.int cd) U ∧ XT.Arr .byte t V U ∧ Cod cd n f V ∧ ∀ j, j < n → ¬ f j < 0 ∧ ¬ 65535 < f j
theorem Txt.mv {x t : Addr} {V : Cell} {cd : Int32} {n : Nat} {f : Nat → Int32} {U U' : State} (h : Txt x t V cd n f U) (hal : U.vm.Alike U'.vm) (hh : U'.heap = U.heap) : Txt x t V cd n f U' := ⟨h.1.mv hal hh, h.2.1.mv hal hh, h.2.2.1.mv hal hh, h.2.2.2.1.mv hal hh, h.2.2.2.2⟩
namespace Cdr
def yN : MethodName := ⟨"java/lang/String", "coder", "()B"⟩
abbrev yB : ByteArray := jdk_42_method_152_code
theorem d0 : decode yB 0 = .ok (.getstatic 38, 3) := by decide +kernel
theorem d3 : decode yB 3 = .ok (.ifCond (.eq) 10, 3) := by decide +kernel
theorem d6 : decode yB 6 = .ok (.aload_n 0, 1) := by decide +kernel
theorem d7 : decode yB 7 = .ok (.getfield 15, 3) := by decide +kernel
theorem d10 : decode yB 10 = .ok (.goto 4, 3) := by decide +kernel
theorem d14 : decode yB 14 = .ok (.ireturn, 1) := by decide +kernel
def site : List Cond := [.fieldLink "java/lang/String" 38 "java/lang/String" "COMPACT_STRINGS" "Z", .fieldLink "java/lang/String" 15 "java/lang/String" "coder" "B"]
def tab : Cond := tabOf yN yB 1 (some .byte) site
def P (x : Addr) (cd z : Int32) (args : Array Value) (s : State) : Prop := args = #[.ref x] ∧ Has x "java/lang/String" "coder" "B" (.int cd) s ∧ (cd = 0 ∨ cd = 1) ∧ StaticIs s "java/lang/String" "COMPACT_STRINGS" "Z" (.int z) ∧ ¬ z = 0
def E (cd : Int32) (r : Option Value) (s u : State) : Prop := XT.PureE (some (.int cd)) r s u
theorem law (l : Launch) (x : Addr) (cd z : Int32) : Law l yN 1 0 0 0 yB 1 (some .byte) site (P x cd z) (E cd) [] 0 0 := by
  refine Law.of_walk (plainFor_of_name (by decide +kernel)) (by decide +kernel) (by decide +kernel) (by decide) (fun _ _ h => by rw [h.1]; rfl) (fun _ U U' hal hh h => ⟨h.1, h.2.1.mv hal hh, h.2.2.1, h.2.2.2.1.there hal hh, h.2.2.2.2⟩) (fun r U U' V V' h1 hal h2 h => XT.PureE.mv r U U' V V' h1 hal h2 h) ?_
  intro p e s m args below meth c s₁ X0 hexec hbytes hml hret hlk hnm hown hh0 W hP
  obtain ⟨rfl, hx, hc, s1, hz⟩ := hP
  have c1 : Steps p.tables e below (s₁.setTop (entryFrame m #[.ref x] 1)) (s₁.setTop (mkF m 0 #[.val (.ref x)] [])) := entry rfl
  obtain ⟨T2, X2, q2, st2⟩ := X0.sget hexec hown (wk W (.fieldLink "java/lang/String" 38 "java/lang/String" "COMPACT_STRINGS" "Z")) s1 (fun _ _ h => by rw [hh0]; exact h) (g := (mkF m 0 #[.val (.ref x)] [])) rfl (hb hbytes d0)
  have hh2 := q2.trans hh0
  have c3 : Steps p.tables e below (s₁.setTop (entryFrame m #[.ref x] 1)) (T2.setTop (mkF m 7 #[.val (.ref x)] [.ref x])) := (c1.trans (st2 _ (Steps.refl _))).trans (by
    refine XS.ifNo X2.here hexec rfl (hb hbytes d3) rfl (i0_eq_f hz) ?_
    refine XS.aloadN X2.here hexec rfl (hb hbytes d6) rfl rfl ?_
    exact Steps.refl _)
  obtain ⟨T4, X4, q4, st4⟩ := X2.hget hexec hown (wk W (.fieldLink "java/lang/String" 15 "java/lang/String" "coder" "B")) (hx.mv X2.warmed.alike hh2) (g := (mkF m 7 #[.val (.ref x)] [.ref x])) rfl (rest := []) rfl (hb hbytes d7)
  have c5 : Steps p.tables e below (s₁.setTop (entryFrame m #[.ref x] 1)) (T4.setTop (mkF m 14 #[.val (.ref x)] [.int cd])) := (c3.trans (st4 _ (Steps.refl _))).trans (by
    refine XS.goto X4.here hexec rfl (pc0 := 10) rfl (hb hbytes d10) (by decide) rfl ?_
    exact Steps.refl _)
  exact ⟨T4, some (.int cd), _, _, _, X4, rfl, rfl, rfl, (fun h => by cases h), ⟨rfl, q4.trans hh2⟩, fun fs hl => c5.trans (X4.ireturnOut hexec hret (by rcases hc with rfl | rfl <;> rfl) (Or.inr (Or.inr (Or.inl rfl))) (hb hbytes d14) hl)⟩
end Cdr
namespace Len
def yN : MethodName := ⟨"java/lang/String", "length", "()I"⟩
abbrev yB : ByteArray := jdk_42_method_54_code
theorem d0 : decode yB 0 = .ok (.aload_n 0, 1) := by decide +kernel
theorem d1 : decode yB 1 = .ok (.getfield 9, 3) := by decide +kernel
theorem d4 : decode yB 4 = .ok (.arraylength, 1) := by decide +kernel
theorem d5 : decode yB 5 = .ok (.aload_n 0, 1) := by decide +kernel
theorem d6 : decode yB 6 = .ok (.invokevirtual 335, 3) := by decide +kernel
theorem d9 : decode yB 9 = .ok (.ishr, 1) := by decide +kernel
theorem d10 : decode yB 10 = .ok (.ireturn, 1) := by decide +kernel
def site : List Cond := [.fieldLink "java/lang/String" 9 "java/lang/String" "value" "[B", Cdr.tab] ++ virtW "java/lang/String" 335 "java/lang/String" Cdr.yN Cdr.yN
def tab : Cond := tabOf yN yB 1 (some .int) site
def P (x t : Addr) (V : Cell) (cd : Int32) (n : Nat) (f : Nat → Int32) (z : Int32) (args : Array Value) (s : State) : Prop := args = #[.ref x] ∧ Txt x t V cd n f s ∧ StaticIs s "java/lang/String" "COMPACT_STRINGS" "Z" (.int z) ∧ ¬ z = 0
def E (n : Nat) (r : Option Value) (s u : State) : Prop := XT.PureE (some (.int (Int32.ofNat n))) r s u
/-- length() of a String of n chars, in either coding -/
theorem law (l : Launch) (x t : Addr) (V : Cell) (cd : Int32) (n : Nat) (f : Nat → Int32) (z : Int32) : Law l yN 1 0 1 13 yB 1 (some .int) site (P x t V cd n f z) (E n) [] 0 0 := by
  refine Law.of_walk (plainFor_of_name (by decide +kernel)) (by decide +kernel) (by decide +kernel) (by decide) (fun _ _ h => by rw [h.1]; rfl) (fun _ U U' hal hh h => ⟨h.1, h.2.1.mv hal hh, h.2.2.1.there hal hh, h.2.2.2⟩) (fun r U U' V V' h1 hal h2 h => XT.PureE.mv r U U' V V' h1 hal h2 h) ?_
  intro p e s m args below meth c s₁ X0 hexec hbytes hml hret hlk hnm hown hh0 W hP
  obtain ⟨rfl, hx, s1, hz⟩ := hP
  have v31 := hx.2.2.2.1.2.2.2
  have c1 : Steps p.tables e below (s₁.setTop (entryFrame m #[.ref x] 1)) (s₁.setTop (mkF m 1 #[.val (.ref x)] [.ref x])) := Steps.trans (entry rfl) (by
    show Steps p.tables e below (s₁.setTop (mkF m 0 #[.val (.ref x)] [])) _
    refine XS.aloadN X0.here hexec rfl (hb hbytes d0) rfl rfl ?_
    exact Steps.refl _)
  obtain ⟨T2, X2, q2, st2⟩ := X0.hget hexec hown (wk W (.fieldLink "java/lang/String" 9 "java/lang/String" "value" "[B")) (hx.mv X0.warmed.alike hh0).2.1 (g := (mkF m 1 #[.val (.ref x)] [.ref x])) rfl (rest := []) rfl (hb hbytes d1)
  have hh2 := q2.trans hh0
  have hx2 := hx.mv X2.warmed.alike hh2
  have c3 : Steps p.tables e below (s₁.setTop (entryFrame m #[.ref x] 1)) (T2.setTop (mkF m 6 #[.val (.ref x)] [.ref x, .int (Int32.ofNat V.slots.size)])) := (c1.trans (st2 _ (Steps.refl _))).trans (by
    refine X2.alen hexec hx2.2.2.2.1 rfl rfl (hb hbytes d4) ?_
    refine XS.aloadN X2.here hexec rfl (hb hbytes d5) rfl rfl ?_
    exact Steps.refl _)
  obtain ⟨v4, T4, X4, E4, g4⟩ := X2.callV hexec (Cdr.law l x cd z) hown (wks W (virtW "java/lang/String" 335 "java/lang/String" Cdr.yN Cdr.yN)) rfl (by decide) (wk W Cdr.tab) (W := 1) (Nat.le_of_ble_eq_true rfl) (Nat.le_of_ble_eq_true rfl) (Nat.le_refl _) (Nat.le_refl _) (hx2.1.fc X2.warmed.alike) hx2.1.is (g := (mkF m 6 #[.val (.ref x)] [.ref x, .int (Int32.ofNat V.slots.size)])) rfl (by rw [hml]; rfl) c3 (argsL := []) (rest := [.int (Int32.ofNat V.slots.size)]) rfl rfl (by show 2 * 0 + (1 + 0) ≤ _; decide) (hb hbytes d6) (⟨rfl, hx2.2.2.1, hx.2.2.2.2.1.cd, s1.there X2.warmed.alike hh2, hz⟩)
  obtain ⟨rfl, q4⟩ := E4
  have c5 : Steps p.tables e below (s₁.setTop (entryFrame m #[.ref x] 1)) (T4.setTop (mkF m 10 #[.val (.ref x)] [.int (Int32.ofNat V.slots.size >>> (cd &&& 31))])) := Steps.trans g4 (by
    refine ishr X4.here hexec rfl (hb hbytes d9) rfl ?_
    exact Steps.refl _)
  rw [hx.2.2.2.2.1.len v31] at c5
  exact ⟨T4, some (.int (Int32.ofNat n)), _, _, _, X4, rfl, rfl, rfl, (fun h => by cases h), ⟨rfl, q4.trans hh2⟩, fun fs hl => c5.trans (X4.ireturnOut hexec hret rfl (Or.inl rfl) (hb hbytes d10) hl)⟩
theorem pays {l : Launch} {R : Room} {p : Program} {e : Env} {below : List Frame} {s : State} {sargs : Array Value} {len W : Nat} (x t : Addr) (V : Cell) (cd : Int32) (n : Nat) (f : Nat → Int32) (z : Int32) (htab : tab.before sargs s = true) (hfr : 2 ≤ R.frames) (hlo : W + 25 ≤ R.locals) :
    Back l R p e below s sargs yN len W (fun A₁ a₁ => A₁.cells + 0 ≤ R.cells ∧ A₁.slots + 0 ≤ R.slots ∧ P x t V cd n f z a₁ A₁.U) (fun A₁ _ v₁ B₁ => E n v₁ A₁.U B₁.U ∧ B₁.locs = A₁.locs ++ [] ∧ B₁.cells = A₁.cells + 0 ∧ B₁.slots = A₁.slots + 0) :=
  (law l x t V cd n f z).pays htab hfr (by omega)
end Len
namespace IsL
def yN : MethodName := ⟨"java/lang/String", "isLatin1", "()Z"⟩
abbrev yB : ByteArray := jdk_42_method_154_code
theorem d0 : decode yB 0 = .ok (.getstatic 38, 3) := by decide +kernel
theorem d3 : decode yB 3 = .ok (.ifCond (.eq) 14, 3) := by decide +kernel
theorem d6 : decode yB 6 = .ok (.aload_n 0, 1) := by decide +kernel
theorem d7 : decode yB 7 = .ok (.getfield 15, 3) := by decide +kernel
theorem d10 : decode yB 10 = .ok (.ifCond (.ne) 7, 3) := by decide +kernel
theorem d13 : decode yB 13 = .ok (.iconst 1, 1) := by decide +kernel
theorem d14 : decode yB 14 = .ok (.goto 4, 3) := by decide +kernel
theorem d17 : decode yB 17 = .ok (.iconst 0, 1) := by decide +kernel
theorem d18 : decode yB 18 = .ok (.ireturn, 1) := by decide +kernel
def site : List Cond := [.fieldLink "java/lang/String" 38 "java/lang/String" "COMPACT_STRINGS" "Z", .fieldLink "java/lang/String" 15 "java/lang/String" "coder" "B"]
def tab : Cond := tabOf yN yB 1 (some .boolean) site
def P (x : Addr) (cd z : Int32) (args : Array Value) (s : State) : Prop := args = #[.ref x] ∧ Has x "java/lang/String" "coder" "B" (.int cd) s ∧ (cd = 0 ∨ cd = 1) ∧ StaticIs s "java/lang/String" "COMPACT_STRINGS" "Z" (.int z) ∧ ¬ z = 0
def E (cd : Int32) (r : Option Value) (s u : State) : Prop := XT.PureE (some (.int (1 - cd))) r s u
theorem law (l : Launch) (x : Addr) (cd z : Int32) : Law l yN 1 0 0 0 yB 1 (some .boolean) site (P x cd z) (E cd) [] 0 0 := by
  refine Law.of_walk (plainFor_of_name (by decide +kernel)) (by decide +kernel) (by decide +kernel) (by decide) (fun _ _ h => by rw [h.1]; rfl) (fun _ U U' hal hh h => ⟨h.1, h.2.1.mv hal hh, h.2.2.1, h.2.2.2.1.there hal hh, h.2.2.2.2⟩) (fun r U U' V V' h1 hal h2 h => XT.PureE.mv r U U' V V' h1 hal h2 h) ?_
  intro p e s m args below meth c s₁ X0 hexec hbytes hml hret hlk hnm hown hh0 W hP
  obtain ⟨rfl, hx, hc, s1, hz⟩ := hP
  have c1 : Steps p.tables e below (s₁.setTop (entryFrame m #[.ref x] 1)) (s₁.setTop (mkF m 0 #[.val (.ref x)] [])) := entry rfl
  obtain ⟨T2, X2, q2, st2⟩ := X0.sget hexec hown (wk W (.fieldLink "java/lang/String" 38 "java/lang/String" "COMPACT_STRINGS" "Z")) s1 (fun _ _ h => by rw [hh0]; exact h) (g := (mkF m 0 #[.val (.ref x)] [])) rfl (hb hbytes d0)
  have hh2 := q2.trans hh0
  have c3 : Steps p.tables e below (s₁.setTop (entryFrame m #[.ref x] 1)) (T2.setTop (mkF m 7 #[.val (.ref x)] [.ref x])) := (c1.trans (st2 _ (Steps.refl _))).trans (by
    refine XS.ifNo X2.here hexec rfl (hb hbytes d3) rfl (i0_eq_f hz) ?_
    refine XS.aloadN X2.here hexec rfl (hb hbytes d6) rfl rfl ?_
    exact Steps.refl _)
  obtain ⟨T4, X4, q4, st4⟩ := X2.hget hexec hown (wk W (.fieldLink "java/lang/String" 15 "java/lang/String" "coder" "B")) (hx.mv X2.warmed.alike hh2) (g := (mkF m 7 #[.val (.ref x)] [.ref x])) rfl (rest := []) rfl (hb hbytes d7)
  have c5 : Steps p.tables e below (s₁.setTop (entryFrame m #[.ref x] 1)) (T4.setTop (mkF m 10 #[.val (.ref x)] [.int cd])) := c3.trans (st4 _ (Steps.refl _))
  have c6 : Steps p.tables e below (s₁.setTop (entryFrame m #[.ref x] 1)) (T4.setTop (mkF m 18 #[.val (.ref x)] [.int (1 - cd)])) := by
    rcases hc with rfl | rfl
    · exact c5.trans (by
        refine XS.ifNo X4.here hexec rfl (hb hbytes d10) rfl (i0_ne_f rfl) ?_
        refine iconstV X4.here hexec rfl 1 (hb hbytes d13) (by decide) ?_
        refine XS.goto X4.here hexec rfl (pc0 := 14) rfl (hb hbytes d14) (by decide) rfl ?_
        exact Steps.refl _)
    · exact c5.trans (by
        refine XS.ifYes X4.here hexec rfl (pc0 := 10) rfl (hb hbytes d10) rfl (i0_ne_t (by decide)) (by decide) rfl ?_
        refine iconstV X4.here hexec rfl 0 (hb hbytes d17) (by decide) ?_
        exact Steps.refl _)
  exact ⟨T4, some (.int (1 - cd)), _, _, _, X4, rfl, rfl, rfl, (fun h => by cases h), ⟨rfl, q4.trans hh2⟩, fun fs hl => c6.trans (X4.ireturnOut hexec hret (by rcases hc with rfl | rfl <;> rfl) (Or.inr (Or.inl rfl)) (hb hbytes d18) hl)⟩
end IsL
namespace LChA
def yN : MethodName := ⟨"java/lang/StringLatin1", "charAt", "([BI)C"⟩
abbrev yB : ByteArray := jdk_43_method_2_code
theorem d0 : decode yB 0 = .ok (.iload_n 1, 1) := by decide +kernel
theorem d1 : decode yB 1 = .ok (.aload_n 0, 1) := by decide +kernel
theorem d2 : decode yB 2 = .ok (.arraylength, 1) := by decide +kernel
theorem d3 : decode yB 3 = .ok (.invokestatic 9, 3) := by decide +kernel
theorem d6 : decode yB 6 = .ok (.aload_n 0, 1) := by decide +kernel
theorem d7 : decode yB 7 = .ok (.iload_n 1, 1) := by decide +kernel
theorem d8 : decode yB 8 = .ok (.baload, 1) := by decide +kernel
theorem d9 : decode yB 9 = .ok (.sipush 255, 3) := by decide +kernel
theorem d12 : decode yB 12 = .ok (.iand, 1) := by decide +kernel
theorem d13 : decode yB 13 = .ok (.i2c, 1) := by decide +kernel
theorem d14 : decode yB 14 = .ok (.ireturn, 1) := by decide +kernel
def site : List Cond := [JO.Str_checkIndex.tab] ++ staticW "java/lang/StringLatin1" 9 JO.Str_checkIndex.yN
def tab : Cond := tabOf yN yB 2 (some .char) site
def P (t : Addr) (V : Cell) (i : Nat) (u : Int32) (fm : Value) (args : Array Value) (s : State) : Prop := args = #[.ref t, .int (Int32.ofNat i)] ∧ XT.Arr .byte t V s ∧ V.slots[i]? = some (.int u) ∧ (StaticIs s "jdk/internal/util/Preconditions" "SIOOBE_FORMATTER" "Ljava/util/function/BiFunction;" fm ∧ fm.isRef = true)
def E (u : Int32) (r : Option Value) (s w : State) : Prop := XT.PureE (some (.int (chr8 u))) r s w
theorem law (l : Launch) (t : Addr) (V : Cell) (i : Nat) (u : Int32) (fm : Value) : Law l yN 2 2 2 27 yB 2 (some .char) site (P t V i u fm) (E u) [] 0 0 := by
  refine Law.of_walk (plainFor_of_name (by decide +kernel)) (by decide +kernel) (by decide +kernel) (by decide) (fun _ _ h => by rw [h.1]; rfl) (fun _ U U' hal hh h => ⟨h.1, h.2.1.mv hal hh, h.2.2.1, h.2.2.2.1.there hal hh, h.2.2.2.2⟩) (fun r U U' V V' h1 hal h2 h => XT.PureE.mv r U U' V V' h1 hal h2 h) ?_
  intro p e s m args below meth c s₁ X0 hexec hbytes hml hret hlk hnm hown hh0 W hP
  obtain ⟨rfl, hV, hu, s1, rf⟩ := hP
  have v31 := hV.2.2.2
  have hi : i < V.slots.size := (Array.getElem?_eq_some_iff.mp hu).1
  have c1 : Steps p.tables e below (s₁.setTop (entryFrame m #[.ref t, .int (Int32.ofNat i)] 2)) (s₁.setTop (mkF m 0 #[.val (.ref t), .val (.int (Int32.ofNat i))] [])) := entry rfl
  have c2 : Steps p.tables e below (s₁.setTop (entryFrame m #[.ref t, .int (Int32.ofNat i)] 2)) (s₁.setTop (mkF m 3 #[.val (.ref t), .val (.int (Int32.ofNat i))] [.int (Int32.ofNat V.slots.size), .int (Int32.ofNat i)])) := c1.trans (by
    refine XS.iloadN X0.here hexec rfl (hb hbytes d0) rfl ?_
    refine XS.aloadN X0.here hexec rfl (hb hbytes d1) rfl rfl ?_
    refine X0.alen hexec (hV.mv X0.warmed.alike hh0) rfl rfl (hb hbytes d2) ?_
    exact Steps.refl _)
  obtain ⟨v3, T3, X3, E3, g3⟩ := X0.callS hexec (JO.Str_checkIndex.law l (Int32.ofNat i) (Int32.ofNat V.slots.size) fm) hown (wks W (staticW "java/lang/StringLatin1" 9 JO.Str_checkIndex.yN)) (wk W JO.Str_checkIndex.tab) (W := 0) (Nat.le_of_ble_eq_true rfl) (Nat.le_of_ble_eq_true rfl) (Nat.le_refl _) (Nat.le_refl _) (g := (mkF m 3 #[.val (.ref t), .val (.int (Int32.ofNat i))] [.int (Int32.ofNat V.slots.size), .int (Int32.ofNat i)])) rfl (by rw [hml]; rfl) c2 (argsL := [.int (Int32.ofNat i), .int (Int32.ofNat V.slots.size)]) (rest := []) rfl rfl (by show 2 * 0 + 0 ≤ _; decide) (hb hbytes d3) (⟨rfl, rf, s1.there X0.warmed.alike hh0, Int32.ofNat_not_neg (by omega), lt32 v31 hi⟩)
  obtain ⟨rfl, q3⟩ := E3
  have hh3 := q3.trans hh0
  have c4 : Steps p.tables e below (s₁.setTop (entryFrame m #[.ref t, .int (Int32.ofNat i)] 2)) (T3.setTop (mkF m 14 #[.val (.ref t), .val (.int (Int32.ofNat i))] [.int (chr8 u)])) := Steps.trans g3 (by
    refine XS.aloadN X3.here hexec rfl (hb hbytes d6) rfl rfl ?_
    refine XS.iloadN X3.here hexec rfl (hb hbytes d7) rfl ?_
    refine X3.aget hexec (hV.mv X3.warmed.alike hh3) rfl hu rfl rfl (hb hbytes d8) ?_
    refine sipushV X3.here hexec rfl 255 (hb hbytes d9) (by decide) ?_
    refine XS.iand X3.here hexec rfl (hb hbytes d12) rfl ?_
    refine i2c X3.here hexec rfl (hb hbytes d13) rfl ?_
    exact Steps.refl _)
  exact ⟨T3, some (.int (chr8 u)), _, _, _, X3, rfl, rfl, rfl, (fun h => by cases h), ⟨rfl, hh3⟩, fun fs hl => c4.trans (X3.ireturnOut hexec hret (narrow_c _) (Or.inr (Or.inr (Or.inr (Or.inl rfl)))) (hb hbytes d14) hl)⟩
end LChA
end StrChars
namespace StrChars.Road
open Jvm Sem ClassFile Op Lib Jvm.Stand Jvm.Free Jvm.Free.XT
open Jvm.Lib.Cold (StaticIs)
theorem consq {a : Array Value} {s : State} {c : Jvm.Cond} {L : List Jvm.Cond} (h0 : c.before a s = true) (h : ∀ w ∈ L, w.before a s = true) : ∀ w ∈ c :: L, w.before a s = true := fun w hw => (List.mem_cons.mp hw).elim (fun e => e ▸ h0) (h w)
/-- the words of String.length(), either coding -/
abbrev wordsLen : List Jvm.Cond := [.code Len.yN Len.yB 1 (some .int), .initialized ST, .fieldLink ST 9 ST "value" "[B", .fieldLink ST 38 ST "COMPACT_STRINGS" "Z", .fieldLink ST 15 ST "coder" "B", .code Cdr.yN Cdr.yB 1 (some .byte), .methodLink ST 335 Cdr.yN, .declares Cdr.yN, .selects ST Cdr.yN Cdr.yN, .instanceMethod Cdr.yN]
theorem tabLen_of {a : Array Value} {s : State} (h : ∀ w ∈ wordsLen, w.before a s = true) : Len.tab.before a s = true := by
  have hc : Cdr.tab.before a s = true := unparts (wk h (.code Cdr.yN Cdr.yB 1 (some .byte))) (wks h (.initialized Cdr.yN.cls :: Cdr.site))
  have q := consq hc h
  exact unparts (wk q (.code Len.yN Len.yB 1 (some .int))) (wks q (.initialized Len.yN.cls :: Len.site))
theorem movedLen {Z s : State} {a0 args : Array Value} (hZ : Z.Warmed39 s.vm) (hw : ∀ d ∈ wordsLen, d.before a0 Z = true) : ∀ d ∈ wordsLen, d.before args s = true := fun d hd => by
  have q := hw d hd
  have t : ∀ d ∈ wordsLen, d = .arrayClass .byte ∨ (d.onTables && d.keepsFace) = true := by decide +kernel
  rcases t d hd with rfl | t
  · exact RoadKit.mvA hZ q
  · exact RoadKit.mv hZ q t
/-- the bytes of the chars cs, low before high -/
def wideBytes : List Int32 → List Value
  | [] => []
  | c :: cs => .int (lo8 c) :: .int (hi8 c) :: wideBytes cs
theorem wide_lo (d : Value) : ∀ (cs : List Int32) (j : Nat), j < cs.length → (wideBytes cs).getD (2 * j) d = .int (lo8 (cs.getD j 0))
  | [], j, h => absurd h (Nat.not_lt_zero j)
  | c :: cs, 0, _ => rfl
  | c :: cs, j + 1, h => by
    have q := wide_lo d cs j (by simpa using h)
    rw [show 2 * (j + 1) = 2 * j + 1 + 1 from by omega]
    simpa [wideBytes] using q
theorem wide_hi (d : Value) : ∀ (cs : List Int32) (j : Nat), j < cs.length → (wideBytes cs).getD (2 * j + 1) d = .int (hi8 (cs.getD j 0))
  | [], j, h => absurd h (Nat.not_lt_zero j)
  | c :: cs, 0, _ => rfl
  | c :: cs, j + 1, h => by
    have q := wide_hi d cs j (by simpa using h)
    rw [show 2 * (j + 1) + 1 = 2 * j + 1 + 1 + 1 from by omega]
    simpa [wideBytes] using q
theorem low_at (d : Value) (cs : List Int32) (j : Nat) (h : j < cs.length) : (cs.map fun c => Value.int (lo8 c)).getD j d = .int (lo8 (cs.getD j 0)) := by
  simp [List.getD_eq_getElem?_getD, h]
/-- an array of N2 bytes vs codes the chars cs by the coder cd -/
def CodA (cs : List Int32) (cd N2 : Int32) (vs : List Value) : Prop := (cd = 0 ∧ N2 = Int32.ofNat cs.length ∧ vs = (cs.map fun c => Value.int (lo8 c)) ∧ ∀ c ∈ cs, ¬ 255 < c) ∨ (cd = 1 ∧ N2 = Int32.ofNat (2 * cs.length) ∧ vs = wideBytes cs ∧ ∃ c ∈ cs, 255 < c)
theorem CodA.cod {cs : List Int32} {cd N2 : Int32} {vs : List Value} {V : Cell} (h : CodA cs cd N2 vs) (hn : 2 * cs.length < 2 ^ 31) (hs : V.slots.size = N2.toNatClampNeg) (hv : RoadKit.Has V vs (.int 0)) : Cod cd cs.length (fun j => cs.getD j 0) V := by
  rcases h with ⟨rfl, rfl, rfl, h⟩ | ⟨rfl, rfl, rfl, c, hc, hw⟩
  · rw [n32 (by omega)] at hs
    exact Or.inl ⟨rfl, hs, fun j hj => ⟨by rw [hv j (by omega), low_at _ _ _ hj], by
      have e : cs.getD j 0 = cs[j] := by simp [List.getD_eq_getElem?_getD, hj]
      show ¬ 255 < cs.getD j 0
      rw [e]; exact h _ (List.getElem_mem _)⟩⟩
  · rw [n32 (by omega)] at hs
    obtain ⟨j, hj, rfl⟩ := List.getElem_of_mem hc
    exact Or.inr ⟨rfl, hs, fun j hj => ⟨by rw [hv _ (by omega), wide_lo _ _ _ hj], by rw [hv _ (by omega), wide_hi _ _ _ hj]⟩, j, hj, by
      have e : cs.getD j 0 = cs[j] := by simp [List.getD_eq_getElem?_getD, hj]
      show 255 < cs.getD j 0
      rw [e]; exact hw⟩
/-- an object of exactly java/lang/String, its two fields found: as the laws ask it -/
theorem strObj {Z U : State} {a0 : Array Value} {kI : Nat} (wi : (Jvm.Cond.instantiable ST kI).before a0 Z = true) (al : Z.vm.Alike U.vm) {x : Addr} {v0 c0 : Value} (E : RoadKit.Exa Z U.heap x ST) (V : RoadKit.Fld Z U.heap x ST "value" "[B" v0) (C : RoadKit.Fld Z U.heap x ST "coder" "B" c0) :
    ∃ (D : Cell) (fV fC : Field), Blank ST x D U ∧ Found ST "value" "[B" fV U ∧ Found ST "coder" "B" fC U ∧ D.slots[fV.slot]? = some v0 ∧ D.slots[fC.slot]? = some c0 ∧ RoadKit.slotOf Z ST "value" "[B" = fV.slot ∧ RoadKit.slotOf Z ST "coder" "B" = fC.slot := by
  obtain ⟨D, cfV, kV, iV, fV, hD, gV, stV, knV, obV, asV, slV⟩ := V
  obtain ⟨D', cfC, kC, iC, fC, hD', gC, stC, -, -, asC, slC⟩ := C
  cases hD.symm.trans hD'
  obtain ⟨D2, kD, e1, e2, e3, e4, e5⟩ := E
  cases hD.symm.trans e1
  obtain ⟨c2, k2, i1, i2, i3, -⟩ := Cond.instantiable_spec wi
  cases e2.symm.trans i1
  cases e3.symm.trans i2
  obtain ⟨kU, u1, u2⟩ := al.2.2 _ _ e3
  exact ⟨D, fV, fC, ⟨hD, ⟨knV, fun q hq => by rw [hq] at obV; cases obV⟩, by rw [al.findClass]; exact e2, kU, u1, by rw [u2]; exact i3, by rw [u2]; exact e5 i3⟩, ⟨SBG.found_only al ⟨cfV, kV, iV, gV⟩, stV⟩, ⟨SBG.found_only al ⟨cfC, kC, iC, gC⟩, stC⟩, slV, slC, by simp [RoadKit.slotOf, gV], by simp [RoadKit.slotOf, gC]⟩
theorem sta_is {Z U : State} (al : Z.vm.Alike U.vm) {C n d : String} {v : Value} (S : RoadKit.Sta Z U.heap C n d v) : StaticIs U C n d v := by
  obtain ⟨cfS, iS, kS, fS, st, cS, t1, t2, t3, t4, t5, t6, t7⟩ := S
  exact StaticIs.there (s := { Z with heap := U.heap }) ⟨cfS, iS, kS, fS, st, cS, t1, t2, t3, t4, t5, (fun q => by rw [q] at t6; cases t6), t7⟩ al rfl
/-- **length() OF SUCH A STRING** -/
theorem lenW {p : Program} {l : Launch} {e : Env} {R : Room} {s : State} {args : Array Value} {below : List Frame} {len W : Nat} {Z : State} {a0 : Array Value} {h : Heap} (hZ : Z.Warmed39 s.vm) (hw : ∀ d ∈ wordsLen, d.before a0 Z = true) {kI : Nat} (wi : (Jvm.Cond.instantiable ST kI).before a0 Z = true)
    {x t : Addr} {kb : ClassId} {cs : List Int32} {cd N2 z : Int32} {vs : List Value} (E : RoadKit.Exa Z h x ST) (V : RoadKit.Fld Z h x ST "value" "[B" (.ref t)) (C : RoadKit.Fld Z h x ST "coder" "B" (.int cd)) (K : RoadKit.Arv Z h t kb .byte N2 vs (.int 0)) (hc : CodA cs cd N2 vs) (hb : ∀ c ∈ cs, ¬ c < 0 ∧ ¬ (65535 : Int32) < c)
    (S : RoadKit.Sta Z h ST "COMPACT_STRINGS" "Z" (.int z)) (hz : ¬ z = 0) (l2 : cs.length ≤ 4000) (hfr : 2 ≤ R.frames) (hlo : W + 25 ≤ R.locals) :
    Back l R p e below s args (⟨"java/lang/String", "length", "()I"⟩ : MethodName) len W (fun P a => a = #[.ref x] ∧ P.U.heap = h ∧ P.cells + 0 ≤ R.cells ∧ P.slots + 0 ≤ R.slots)
      (fun P _ v B => ∃ L, (v = some (.int (Int32.ofNat cs.length)) ∧ L = [] ∧ B.U.heap = h) ∧ B.locs = P.locs ++ L ∧ B.cells = P.cells + 0 ∧ B.slots = P.slots + 0) := by
  obtain ⟨A, K1, K2, K3, K4, K5, K6⟩ := K
  have hcod := hc.cod (by omega) K3 K5
  intro m meth c P g ig mk a X hg hsize hdg hW hn hp'
  obtain ⟨rfl, rfl, r1, r2⟩ := hp'
  have al : Z.vm.Alike P.U.vm := hZ.alike.trans X.warmed.alike
  obtain ⟨D, fV, fC, hB, F1, F2, g1, g2, -, -⟩ := strObj wi al E V C
  have hx : Txt x t A cd cs.length (fun j => cs.getD j 0) P.U := ⟨⟨_, hB.2.2.1, D, hB.1, rfl, by cases q : D.vm <;> first | rfl | exact absurd q (hB.2.1.2 _)⟩, Has.of hB F1 g1, Has.of hB F2 g2, ⟨K1.1, State.isArrayOf_alike al K1.2.1, K1.2.2, by rcases hcod with ⟨-, q, -⟩ | ⟨-, q, -⟩ <;> omega⟩, hcod, fun j hj => by
    have e : cs.getD j 0 = cs[j] := by simp [List.getD_eq_getElem?_getD, hj]
    show ¬ cs.getD j 0 < 0 ∧ ¬ 65535 < cs.getD j 0
    rw [e]; exact hb _ (List.getElem_mem _)⟩
  obtain ⟨v, B, X', ⟨⟨hv, hh⟩, hl, hk, hs⟩, st⟩ := Len.pays x t A cd cs.length (fun j => cs.getD j 0) z (tabLen_of (movedLen hZ hw)) hfr hlo m meth c P g ig mk _ X hg hsize hdg hW hn ⟨r1, r2, rfl, hx, sta_is al S, hz⟩
  exact ⟨v, B, X', ⟨[], ⟨hv, rfl, hh⟩, hl, hk, hs⟩, st⟩
end StrChars.Road
namespace StrChars.Road
open Jvm Sem ClassFile Op Lib Jvm.Stand Jvm.Free Jvm.Free.XT
open Jvm.Lib.Cold (StaticIs)
/-- the road's facts of a String, as the laws ask it -/
theorem txt_of {Z U : State} {a0 : Array Value} {kI : Nat} (wi : (Jvm.Cond.instantiable ST kI).before a0 Z = true) (al : Z.vm.Alike U.vm) {x t : Addr} {kb : ClassId} {cs : List Int32} {cd N2 : Int32} {vs : List Value} (E : RoadKit.Exa Z U.heap x ST) (V : RoadKit.Fld Z U.heap x ST "value" "[B" (.ref t)) (C : RoadKit.Fld Z U.heap x ST "coder" "B" (.int cd)) (K : RoadKit.Arv Z U.heap t kb .byte N2 vs (.int 0)) (hc : CodA cs cd N2 vs) (hb : ∀ c ∈ cs, ¬ c < 0 ∧ ¬ (65535 : Int32) < c) (l2 : cs.length ≤ 4000) :
    ∃ A, Txt x t A cd cs.length (fun j => cs.getD j 0) U := by
  obtain ⟨A, K1, K2, K3, K4, K5, K6⟩ := K
  have hcod := hc.cod (by omega) K3 K5
  obtain ⟨D, fV, fC, hB, F1, F2, g1, g2, -, -⟩ := strObj wi al E V C
  exact ⟨A, ⟨_, hB.2.2.1, D, hB.1, rfl, by cases q : D.vm <;> first | rfl | exact absurd q (hB.2.1.2 _)⟩, Has.of hB F1 g1, Has.of hB F2 g2, ⟨K1.1, State.isArrayOf_alike al K1.2.1, K1.2.2, by rcases hcod with ⟨-, q, -⟩ | ⟨-, q, -⟩ <;> omega⟩, hcod, fun j hj => by
    have e : cs.getD j 0 = cs[j] := by simp [List.getD_eq_getElem?_getD, hj]
    show ¬ cs.getD j 0 < 0 ∧ ¬ 65535 < cs.getD j 0
    rw [e]; exact hb _ (List.getElem_mem _)⟩
end StrChars.Road
namespace StrChars
open Jvm Sem ClassFile Op Lib Jvm.Stand Jvm.Free.XT Jvm.Free.ALB Jvm.Free.JM Jvm.Free
open Jvm.Lib.Cold (StaticIs)
namespace ChN
def yN : MethodName := ⟨"java/lang/String", "charAt", "(I)C"⟩
abbrev yB : ByteArray := jdk_42_method_56_code
theorem d0 : decode yB 0 = .ok (.aload_n 0, 1) := by decide +kernel
theorem d1 : decode yB 1 = .ok (.invokevirtual 492, 3) := by decide +kernel
theorem d4 : decode yB 4 = .ok (.ifCond (.eq) 12, 3) := by decide +kernel
theorem d7 : decode yB 7 = .ok (.aload_n 0, 1) := by decide +kernel
theorem d8 : decode yB 8 = .ok (.getfield 9, 3) := by decide +kernel
theorem d11 : decode yB 11 = .ok (.iload_n 1, 1) := by decide +kernel
theorem d12 : decode yB 12 = .ok (.invokestatic 495, 3) := by decide +kernel
theorem d15 : decode yB 15 = .ok (.ireturn, 1) := by decide +kernel
def site : List Cond := [.fieldLink "java/lang/String" 9 "java/lang/String" "value" "[B", IsL.tab, LChA.tab] ++ virtW "java/lang/String" 492 "java/lang/String" IsL.yN IsL.yN ++ staticW "java/lang/String" 495 LChA.yN
def tab : Cond := tabOf yN yB 2 (some .char) site
def P (x t : Addr) (V : Cell) (n : Nat) (f : Nat → Int32) (z : Int32) (fm : Value) (i : Nat) (args : Array Value) (s : State) : Prop := args = #[.ref x, .int (Int32.ofNat i)] ∧ Txt x t V 0 n f s ∧ i < n ∧ StaticIs s "java/lang/String" "COMPACT_STRINGS" "Z" (.int z) ∧ ¬ z = 0 ∧ StaticIs s "jdk/internal/util/Preconditions" "SIOOBE_FORMATTER" "Ljava/util/function/BiFunction;" fm ∧ fm.isRef = true
def E (f : Nat → Int32) (i : Nat) (r : Option Value) (s u : State) : Prop := XT.PureE (some (.int (f i))) r s u
/-- charAt(i) of a Latin-1 String of n chars, i < n: f i -/
theorem law (l : Launch) (x t : Addr) (V : Cell) (n : Nat) (f : Nat → Int32) (z : Int32) (fm : Value) (i : Nat) : Law l yN 2 1 3 40 yB 2 (some .char) site (P x t V n f z fm i) (E f i) [] 0 0 := by
  refine Law.of_walk (plainFor_of_name (by decide +kernel)) (by decide +kernel) (by decide +kernel) (by decide) (fun _ _ h => by rw [h.1]; rfl) (fun _ U U' hal hh h => ⟨h.1, h.2.1.mv hal hh, h.2.2.1, h.2.2.2.1.there hal hh, h.2.2.2.2.1, h.2.2.2.2.2.1.there hal hh, h.2.2.2.2.2.2⟩) (fun r U U' V V' h1 hal h2 h => XT.PureE.mv r U U' V V' h1 hal h2 h) ?_
  intro p e s m args below meth c s₁ X0 hexec hbytes hml hret hlk hnm hown hh0 W hP
  obtain ⟨rfl, hx, hi, s1, hz, s3, rf⟩ := hP
  have v31 := hx.2.2.2.1.2.2.2
  have hr := hx.2.2.2.2.2 i hi
  have hx0 := hx.mv X0.warmed.alike hh0
  have c1 : Steps p.tables e below (s₁.setTop (entryFrame m #[.ref x, .int (Int32.ofNat i)] 2)) (s₁.setTop (mkF m 1 #[.val (.ref x), .val (.int (Int32.ofNat i))] [.ref x])) := Steps.trans (entry rfl) (by
    show Steps p.tables e below (s₁.setTop (mkF m 0 #[.val (.ref x), .val (.int (Int32.ofNat i))] [])) _
    refine XS.aloadN X0.here hexec rfl (hb hbytes d0) rfl rfl ?_
    exact Steps.refl _)
  obtain ⟨v2, T2, X2, E2, g2⟩ := X0.callV hexec (IsL.law l x 0 z) hown (wks W (virtW "java/lang/String" 492 "java/lang/String" IsL.yN IsL.yN)) rfl (by decide) (wk W IsL.tab) (W := 0) (Nat.le_of_ble_eq_true rfl) (Nat.le_of_ble_eq_true rfl) (Nat.le_refl _) (Nat.le_refl _) (hx0.1.fc X0.warmed.alike) hx0.1.is (g := (mkF m 1 #[.val (.ref x), .val (.int (Int32.ofNat i))] [.ref x])) rfl (by rw [hml]; rfl) c1 (argsL := []) (rest := []) rfl rfl (by show 2 * 0 + 0 ≤ _; decide) (hb hbytes d1) (⟨rfl, hx0.2.2.1, hx.2.2.2.2.1.cd, s1.there X0.warmed.alike hh0, hz⟩)
  obtain ⟨rfl, q2⟩ := E2
  have hh2 := q2.trans hh0
  have hx2 := hx.mv X2.warmed.alike hh2
  obtain ⟨-, k1, k2⟩ | ⟨k0, -⟩ := hx.2.2.2.2.1
  · have c3 : Steps p.tables e below (s₁.setTop (entryFrame m #[.ref x, .int (Int32.ofNat i)] 2)) (T2.setTop (mkF m 8 #[.val (.ref x), .val (.int (Int32.ofNat i))] [.ref x])) := Steps.trans g2 (by
      refine XS.ifNo X2.here hexec rfl (hb hbytes d4) rfl (i0_eq_f (by decide)) ?_
      refine XS.aloadN X2.here hexec rfl (hb hbytes d7) rfl rfl ?_
      exact Steps.refl _)
    obtain ⟨T4, X4, q4, st4⟩ := X2.hget hexec hown (wk W (.fieldLink "java/lang/String" 9 "java/lang/String" "value" "[B")) hx2.2.1 (g := (mkF m 8 #[.val (.ref x), .val (.int (Int32.ofNat i))] [.ref x])) rfl (rest := []) rfl (hb hbytes d8)
    have hh4 := q4.trans hh2
    have c5 : Steps p.tables e below (s₁.setTop (entryFrame m #[.ref x, .int (Int32.ofNat i)] 2)) (T4.setTop (mkF m 12 #[.val (.ref x), .val (.int (Int32.ofNat i))] [.int (Int32.ofNat i), .ref t])) := (c3.trans (st4 _ (Steps.refl _))).trans (by
      refine XS.iloadN X4.here hexec rfl (hb hbytes d11) rfl ?_
      exact Steps.refl _)
    obtain ⟨v6, T6, X6, E6, g6⟩ := X4.callS hexec (LChA.law l t V i (lo8 (f i)) fm) hown (wks W (staticW "java/lang/String" 495 LChA.yN)) (wk W LChA.tab) (W := 0) (Nat.le_of_ble_eq_true rfl) (Nat.le_of_ble_eq_true rfl) (Nat.le_refl _) (Nat.le_refl _) (g := (mkF m 12 #[.val (.ref x), .val (.int (Int32.ofNat i))] [.int (Int32.ofNat i), .ref t])) rfl (by rw [hml]; rfl) c5 (argsL := [.ref t, .int (Int32.ofNat i)]) (rest := []) rfl rfl (by show 2 * 0 + 0 ≤ _; decide) (hb hbytes d12) (⟨rfl, hx.2.2.2.1.mv X4.warmed.alike hh4, (k2 i hi).1, s3.there X4.warmed.alike hh4, rf⟩)
    obtain ⟨rfl, q6⟩ := E6
    rw [chr8_lo8 hr.1 (k2 i hi).2] at g6
    exact ⟨T6, some (.int (f i)), _, _, _, X6, rfl, rfl, rfl, (fun h => by cases h), ⟨rfl, q6.trans hh4⟩, fun fs hl => Steps.trans g6 (X6.ireturnOut hexec hret (narrow_ch hr.1 hr.2) (Or.inr (Or.inr (Or.inr (Or.inl rfl)))) (hb hbytes d15) hl)⟩
  · exact absurd k0 (by decide)
theorem pays {l : Launch} {R : Room} {p : Program} {e : Env} {below : List Frame} {s : State} {sargs : Array Value} {len W : Nat} (x t : Addr) (V : Cell) (n : Nat) (f : Nat → Int32) (z : Int32) (fm : Value) (i : Nat) (htab : tab.before sargs s = true) (hfr : 4 ≤ R.frames) (hlo : W + 53 ≤ R.locals) :
    Back l R p e below s sargs yN len W (fun A₁ a₁ => A₁.cells + 0 ≤ R.cells ∧ A₁.slots + 0 ≤ R.slots ∧ P x t V n f z fm i a₁ A₁.U) (fun A₁ _ v₁ B₁ => E f i v₁ A₁.U B₁.U ∧ B₁.locs = A₁.locs ++ [] ∧ B₁.cells = A₁.cells + 0 ∧ B₁.slots = A₁.slots + 0) :=
  (law l x t V n f z fm i).pays htab hfr (by omega)
end ChN
end StrChars
namespace StrChars.Road
open Jvm Sem ClassFile Op Lib Jvm.Stand Jvm.Free Jvm.Free.XT
open Jvm.Lib.Cold (StaticIs)
/-- the words of String.charAt(int), the Latin-1 road alone -/
abbrev wordsChN : List Jvm.Cond := [.code ChN.yN ChN.yB 2 (some .char), .initialized ST, .fieldLink ST 9 ST "value" "[B", .fieldLink ST 38 ST "COMPACT_STRINGS" "Z", .fieldLink ST 15 ST "coder" "B", .code IsL.yN IsL.yB 1 (some .boolean), .methodLink ST 492 IsL.yN, .declares IsL.yN, .selects ST IsL.yN IsL.yN, .instanceMethod IsL.yN,
  .methodLink ST 495 LChA.yN, .static LChA.yN, .code LChA.yN LChA.yB 2 (some .char), .initialized "java/lang/StringLatin1", .methodLink "java/lang/StringLatin1" 9 JO.Str_checkIndex.yN, .static JO.Str_checkIndex.yN, .code JO.Str_checkIndex.yN JO.Str_checkIndex.yB 2 none,
  .fieldLink ST 1053 "jdk/internal/util/Preconditions" "SIOOBE_FORMATTER" "Ljava/util/function/BiFunction;", .methodLink ST 1059 JC.PreCheck.yN, .static JC.PreCheck.yN, .code JC.PreCheck.yN JC.PreCheck.yB 3 (some .int), .initialized "jdk/internal/util/Preconditions"]
theorem tabChN_of {a : Array Value} {s : State} (h : ∀ w ∈ wordsChN, w.before a s = true) : ChN.tab.before a s = true := by
  have hp : JC.PreCheck.tab.before a s = true := unparts (wk h (.code JC.PreCheck.yN JC.PreCheck.yB 3 (some .int))) (wks h (.initialized JC.PreCheck.yN.cls :: JC.PreCheck.site))
  have qk := consq hp h
  have hk : JO.Str_checkIndex.tab.before a s = true := unparts (wk qk (.code JO.Str_checkIndex.yN JO.Str_checkIndex.yB 2 none)) (wks qk (.initialized JO.Str_checkIndex.yN.cls :: JO.Str_checkIndex.site))
  have ql := consq hk h
  have hl : LChA.tab.before a s = true := unparts (wk ql (.code LChA.yN LChA.yB 2 (some .char))) (wks ql (.initialized LChA.yN.cls :: LChA.site))
  have hi : IsL.tab.before a s = true := unparts (wk h (.code IsL.yN IsL.yB 1 (some .boolean))) (wks h (.initialized IsL.yN.cls :: IsL.site))
  have q := consq hi (consq hl h)
  exact unparts (wk q (.code ChN.yN ChN.yB 2 (some .char))) (wks q (.initialized ChN.yN.cls :: ChN.site))
theorem movedChN {Z s : State} {a0 args : Array Value} (hZ : Z.Warmed39 s.vm) (hw : ∀ d ∈ wordsChN, d.before a0 Z = true) : ∀ d ∈ wordsChN, d.before args s = true := fun d hd => by
  have t : ∀ d ∈ wordsChN, (d.onTables && d.keepsFace) = true := by decide +kernel
  exact RoadKit.mv hZ (hw d hd) (t d hd)
/-- **charAt(i) OF A LATIN-1 STRING**, i < n: the char -/
theorem chN {p : Program} {l : Launch} {e : Env} {R : Room} {s : State} {args : Array Value} {below : List Frame} {len W : Nat} {Z : State} {a0 : Array Value} {h : Heap} (hZ : Z.Warmed39 s.vm) (hw : ∀ d ∈ wordsChN, d.before a0 Z = true) {kI : Nat} (wi : (Jvm.Cond.instantiable ST kI).before a0 Z = true)
    {x t : Addr} {kb : ClassId} {cs : List Int32} {N2 z : Int32} {vs : List Value} {fm : Value} {i : Nat} {j : Int32} (E : RoadKit.Exa Z h x ST) (V : RoadKit.Fld Z h x ST "value" "[B" (.ref t)) (C : RoadKit.Fld Z h x ST "coder" "B" (.int 0)) (K : RoadKit.Arv Z h t kb .byte N2 vs (.int 0)) (hc : CodA cs 0 N2 vs) (hb : ∀ c ∈ cs, ¬ c < 0 ∧ ¬ (65535 : Int32) < c)
    (S : RoadKit.Sta Z h ST "COMPACT_STRINGS" "Z" (.int z)) (hz : ¬ z = 0) (F : RoadKit.Sta Z h "jdk/internal/util/Preconditions" "SIOOBE_FORMATTER" "Ljava/util/function/BiFunction;" fm) (rf : fm.isRef = true) (l2 : cs.length ≤ 4000) (hi : i < cs.length) (hj : j = Int32.ofNat i) (hfr : 4 ≤ R.frames) (hlo : W + 53 ≤ R.locals) :
    Back l R p e below s args (⟨"java/lang/String", "charAt", "(I)C"⟩ : MethodName) len W (fun P a => a = #[.ref x, .int j] ∧ P.U.heap = h ∧ P.cells + 0 ≤ R.cells ∧ P.slots + 0 ≤ R.slots)
      (fun P _ v B => ∃ L, (v = some (.int (cs.getD i 0)) ∧ L = [] ∧ B.U.heap = h) ∧ B.locs = P.locs ++ L ∧ B.cells = P.cells + 0 ∧ B.slots = P.slots + 0) := by
  subst hj
  intro m meth c P g ig mk a X hg hsize hdg hW hn hp'
  obtain ⟨rfl, rfl, r1, r2⟩ := hp'
  have al : Z.vm.Alike P.U.vm := hZ.alike.trans X.warmed.alike
  obtain ⟨A, hx⟩ := txt_of wi al E V C K hc hb l2
  obtain ⟨v, B, X', ⟨⟨hv, hh⟩, hl, hk, hs⟩, st⟩ := ChN.pays x t A cs.length (fun j => cs.getD j 0) z fm i (tabChN_of (movedChN hZ hw)) hfr hlo m meth c P g ig mk _ X hg hsize hdg hW hn ⟨r1, r2, rfl, hx, hi, sta_is al S, hz, sta_is al F, rf⟩
  exact ⟨v, B, X', ⟨[], ⟨hv, rfl, hh⟩, hl, hk, hs⟩, st⟩
/-- what backV says of its String, as the contracts of this text ask it: cs's low bytes, coder 0 -/
theorem codOf {cs : List Int32} {n : Nat} (hn : cs.length = n) (hb : ∀ c ∈ cs, ¬ 255 < c) : CodA cs 0 (Int32.ofNat n) ((cs.map lo8).map Value.int) := Or.inl ⟨rfl, by rw [hn], by simp [List.map_map, Function.comp_def], hb⟩
end StrChars.Road
end Jvm.Pilot.@@N@@

namespace Jvm.Pilot.@@N@@
open Jvm Jvm.ClassFile Sem Op Lib Jvm.Free Jvm.Stand Jvm.LawKit Jvm.RoadKit Bundle Jvm.Pilot.@@N@@.Jvm.D
/-! A walk by continuations: own_Go says that from here the body runs to an end that P allows. -/
def own_Go (p : Program) (e : Env) (below : List Frame) (P : Outcome → State → Prop) (T : State) (g : JFrame) : Prop :=
  ∃ s₂ o, Steps p.tables e below (T.setTop g) s₂ ∧ s₂.status = .running ∧ Ended s₂ below o ∧ P o s₂
abbrev own_End (s : State) (Q : Option Value → Heap → List Loc → Prop) (C S : Nat) : Outcome → State → Prop := fun o s₂ => ∃ v L, o = .returned v ∧ Q v s₂.heap L ∧ FrameEnd s o s₂ L C S
theorem own_pc {m : MethodId} {pc : Nat} {Ls : Array Slot} {st : List Value} {off : Int} (h : 0 ≤ (pc : Int) + off) : 0 ≤ ((mkF m pc Ls st).pc : Int) + off := h
theorem own_cut {J G : Prop} (h : J) (k : J → G) : G := k h
section Own
variable {p : Program} {l : Launch} {e : Env} {R : Room} {s : State} {m : MethodId} {args : Array Value} {below : List Frame} {meth : Method} {c : Code} {T T' : State} {locs : List Loc} {cells slots : Nat} {P : Outcome → State → Prop} {g g' : JFrame} {Q : Option Value → Heap → List Loc → Prop} {C S : Nat}
theorem own_st (h : ∀ t, Steps p.tables e below (T'.setTop g') t → Steps p.tables e below (T.setTop g) t) (k : own_Go p e below P T' g') : own_Go p e below P T g := by
  obtain ⟨s₂, o, h1, r⟩ := k
  exact ⟨s₂, o, h _ h1, r⟩
theorem own_entry (q : g = g') (k : own_Go p e below P T g') : ∃ s₂ o, Steps p.tables e below (T.setTop g) s₂ ∧ s₂.status = .running ∧ Ended s₂ below o ∧ P o s₂ := by
  subst q
  exact k
theorem own_join {α : Type} {F : α → Prop} {g' : α → JFrame} {T' : State} (k : ∀ b, F b → own_Go p e below P T' (g' b)) (j : (∀ b, F b → own_Go p e below P T' (g' b)) → own_Go p e below P T g) : own_Go p e below P T g := j k
theorem own_joinT {S0 : State} {h : Heap} {α : Type} {F : α → Prop} {g' : α → JFrame} (X : Stand p l e R S0 m args below meth c T locs cells slots) (eT : T.heap = h)
    (k : ∀ b T', F b → Stand p l e R S0 m args below meth c T' locs cells slots → T'.heap = h → own_Go p e below P T' (g' b)) (j : (∀ b T', F b → Stand p l e R S0 m args below meth c T' locs cells slots → T'.heap = h → own_Go p e below P T' (g' b)) → own_Go p e below P T g) : own_Go p e below P T g := j k
theorem own_leave (X : Stand p l e R s m args below meth c T locs cells slots) (hlk : meth.locks = false) {v : Option Value} (hv : meth.sig.returnType = none → v = none)
    (k : ∀ fs, (∀ (f : JFrame) (acts : List Action), f.method = m → f.locked = none → f.entered = [] → (doReturn e (T.setTop f) acts v).1 = T.setFrames fs) → Steps p.tables e below (T.setTop g) (T.setFrames fs))
    (hQ : Q v T.heap locs) (hC : cells ≤ C) (hS : slots ≤ S) : own_Go p e below (own_End s Q C S) T g := by
  obtain ⟨fs, hr, hrun, hended, hW, hsame⟩ := X.leave hv hlk
  exact ⟨_, _, k fs hr, hrun, hended, _, _, rfl, hQ, ⟨_, rfl⟩, hW, hsame.mono hC hS⟩
theorem own_retN (X : Stand p l e R s m args below meth c T locs cells slots) (hx : p.tables.exec = Jvm.exec) (hlk : meth.locks = false) {pc : Nat} {Ls : Array Slot} {z : Int32} {t : FieldType} {rest : List Value} (hret : meth.sig.returnType = some t) (ht : t = .boolean ∨ t = .byte ∨ t = .char ∨ t = .short)
    (hd : decode c.code pc = .ok (.ireturn, 1)) (hQ : Q (some (.int (nar t z))) T.heap locs) (hC : cells ≤ C) (hS : slots ≤ S) : own_Go p e below (own_End s Q C S) T (mkF m pc Ls (.int z :: rest)) :=
  own_leave X hlk (fun h => by rw [hret] at h; cases h) (fun fs hr => retN X hx hret ht hd hr) hQ hC hS
theorem own_retI (X : Stand p l e R s m args below meth c T locs cells slots) (hx : p.tables.exec = Jvm.exec) (hlk : meth.locks = false) {pc : Nat} {Ls : Array Slot} {z : Int32} {rest : List Value} (hret : meth.sig.returnType = some .int)
    (hd : decode c.code pc = .ok (.ireturn, 1)) (hQ : Q (some (.int z)) T.heap locs) (hC : cells ≤ C) (hS : slots ≤ S) : own_Go p e below (own_End s Q C S) T (mkF m pc Ls (.int z :: rest)) :=
  own_leave X hlk (fun h => by rw [hret] at h; cases h) (fun fs hr => retOut X hx hret rfl (Or.inl ⟨rfl, Or.inl rfl, z, rfl⟩) hd hr) hQ hC hS
theorem own_retJ (X : Stand p l e R s m args below meth c T locs cells slots) (hx : p.tables.exec = Jvm.exec) (hlk : meth.locks = false) {pc : Nat} {Ls : Array Slot} {z : Int64} {rest : List Value} (hret : meth.sig.returnType = some .long)
    (hd : decode c.code pc = .ok (.lreturn, 1)) (hQ : Q (some (.long z)) T.heap locs) (hC : cells ≤ C) (hS : slots ≤ S) : own_Go p e below (own_End s Q C S) T (mkF m pc Ls (.long z :: rest)) :=
  own_leave X hlk (fun h => by rw [hret] at h; cases h) (fun fs hr => retOut X hx hret rfl (Or.inr (Or.inl ⟨rfl, rfl, z, rfl⟩)) hd hr) hQ hC hS
theorem own_narrow_ref {t : FieldType} {w : Value} (ht : t.isReference = true) : narrow t w = w := by cases t <;> first | rfl | cases ht
theorem own_retA (X : Stand p l e R s m args below meth c T locs cells slots) (hx : p.tables.exec = Jvm.exec) (hlk : meth.locks = false) {pc : Nat} {Ls : Array Slot} {w : Value} {t : FieldType} {rest : List Value} (hret : meth.sig.returnType = some t) (ht : t.isReference = true) (hw : w.isRef = true)
    (hd : decode c.code pc = .ok (.areturn, 1)) (hQ : Q (some w) T.heap locs) (hC : cells ≤ C) (hS : slots ≤ S) : own_Go p e below (own_End s Q C S) T (mkF m pc Ls (w :: rest)) :=
  own_leave X hlk (fun h => by rw [hret] at h; cases h) (fun fs hr => retOut X hx hret (own_narrow_ref ht) (Or.inr (Or.inr (Or.inr (Or.inr ⟨rfl, ht, hw⟩)))) hd hr) hQ hC hS
theorem own_ret0 (X : Stand p l e R s m args below meth c T locs cells slots) (hx : p.tables.exec = Jvm.exec) (hlk : meth.locks = false) {pc : Nat} {Ls : Array Slot} (hret : meth.sig.returnType = none)
    (hd : decode c.code pc = .ok (.return_, 1)) (hQ : Q none T.heap locs) (hC : cells ≤ C) (hS : slots ≤ S) : own_Go p e below (own_End s Q C S) T (mkF m pc Ls []) :=
  own_leave X hlk (fun _ => rfl) (fun fs hr => X.returnOut hx hret hd hr) hQ hC hS
theorem own_callS (X : Stand p l e R s m args below meth c T locs cells slots) (hx : p.tables.exec = Jvm.exec) {own : String} {index : Nat} {y : MethodName} {bytes : ByteArray} {maxL : Nat} {ret : Option FieldType}
    (hown : s.vm.findClass own = some m.cls) (hlink : (Cond.methodLink own index y).before args s = true) (hstat : (Cond.static y).before args s = true) (hinit : (Cond.initialized y.cls).before args s = true)
    (hcode : (Cond.code y bytes maxL ret).before args s = true) (hy : y.cls ≠ "java/lang/invoke/MethodHandle" ∧ y.cls ≠ "java/lang/invoke/VarHandle")
    {W rc rs : Nat} {as' : Array Value} {h : Heap} {Qc : Option Value → Heap → List Loc → Prop}
    (hK : Back l R p e below s args y 3 W (fun A a => a = as' ∧ A.U.heap = h ∧ A.cells + rc ≤ R.cells ∧ A.slots + rs ≤ R.slots) (fun A _ v B => ∃ L, Qc v B.U.heap L ∧ B.locs = A.locs ++ L ∧ B.cells = A.cells + rc ∧ B.slots = A.slots + rs))
    (hg : g.method = m) (hsize : g.locals.size = c.maxLocals) {argsL rest : List Value} (hlen : ∀ sig, parseMethodDescriptor y.desc = some sig → argsL.length = sig.parameters.length)
    (hstack : g.stack = argsL.reverse ++ rest) (hW : 2 * g.monitorRoom + (rest.map fun v => v.category).sum ≤ W) (hdg : decode c.code g.pc = .ok (.invokestatic index, 3))
    (ha : argsL.toArray = as') (eT : T.heap = h) (hc : cells + rc ≤ R.cells) (hs : slots + rs ≤ R.slots)
    (k : ∀ v T' L, Stand p l e R s m args below meth c T' (locs ++ L) (cells + rc) (slots + rs) → Qc v T'.heap L → own_Go p e below P T' { g with pc := g.pc + 3, stack := v.toList ++ rest }) : own_Go p e below P T g := by
  obtain ⟨v, vm₁, ⟨T', L', k', n'⟩, -, X', ⟨L, hQ, l1, y1, z1⟩, st⟩ := Jvm.LawKit.callS X hx hown hlink hstat hinit hcode hy hK hg hsize hlen hstack hW hdg (fun _ _ => ⟨ha, eT, hc, hs⟩)
  dsimp only [Pt.U, Pt.locs, Pt.cells, Pt.slots] at X' l1 y1 z1 st hQ
  subst l1 y1 z1
  exact own_st st (k v T' L X' hQ)
theorem own_callN (X : Stand p l e R s m args below meth c T locs cells slots) (hx : p.tables.exec = Jvm.exec) {own : String} {index : Nat} {y : MethodName} {bytes : ByteArray} {maxL : Nat} (hy1 : y.name = "<init>")
    (hown : s.vm.findClass own = some m.cls) (hlink : (Cond.methodLink own index y).before args s = true) (hinst : (Cond.instanceMethod y).before args s = true)
    (hcode : (Cond.code y bytes maxL none).before args s = true) (hy : y.cls ≠ "java/lang/invoke/MethodHandle" ∧ y.cls ≠ "java/lang/invoke/VarHandle")
    {W rc rs : Nat} {as' : Array Value} {h : Heap} {Qc : Option Value → Heap → List Loc → Prop}
    (hK : Back l R p e below s args y 3 W (fun A a => a = as' ∧ A.U.heap = h ∧ A.cells + rc ≤ R.cells ∧ A.slots + rs ≤ R.slots) (fun A _ v B => ∃ L, Qc v B.U.heap L ∧ B.locs = A.locs ++ L ∧ B.cells = A.cells + rc ∧ B.slots = A.slots + rs))
    {a : Addr} (hg : g.method = m) (hsize : g.locals.size = c.maxLocals) {argsL rest : List Value} (hlen : ∀ sig, parseMethodDescriptor y.desc = some sig → argsL.length = sig.parameters.length)
    (hstack : g.stack = argsL.reverse ++ .ref a :: rest) (hW : 2 * g.monitorRoom + (rest.map fun v => v.category).sum ≤ W) (hdg : decode c.code g.pc = .ok (.invokespecial index, 3))
    (ha : (Value.ref a :: argsL).toArray = as') (eT : T.heap = h) (hc : cells + rc ≤ R.cells) (hs : slots + rs ≤ R.slots)
    (k : ∀ v T' L, Stand p l e R s m args below meth c T' (locs ++ L) (cells + rc) (slots + rs) → Qc v T'.heap L → own_Go p e below P T' { g with pc := g.pc + 3, stack := v.toList ++ rest }) : own_Go p e below P T g := by
  obtain ⟨v, vm₁, ⟨T', L', k', n'⟩, -, X', ⟨L, hQ, l1, y1, z1⟩, st⟩ := X.specialBack hx hy1 hown hlink hinst hcode hy hK hg hsize (Steps.refl _) hlen hstack hW hdg (fun _ _ => ⟨ha, eT, hc, hs⟩)
  dsimp only [Pt.U, Pt.locs, Pt.cells, Pt.slots] at X' l1 y1 z1 st hQ
  subst l1 y1 z1
  exact own_st (fun t k => st.trans k) (k v T' L X' hQ)
theorem own_callV (X : Stand p l e R s m args below meth c T locs cells slots) (hx : p.tables.exec = Jvm.exec) {own Cn : String} {index : Nat} {y z : MethodName}
    (hown : s.vm.findClass own = some m.cls) (hlink : (Cond.methodLink own index y).before args s = true) (hdecl : (Cond.declares y).before args s = true) (hnf : NotFace s y)
    (hsel : (Cond.selects Cn y z).before args s = true) (hinst : (Cond.instanceMethod z).before args s = true)
    (hy : y.cls ≠ "java/lang/invoke/MethodHandle" ∧ y.cls ≠ "java/lang/invoke/VarHandle")
    {W rc rs : Nat} {as' : Array Value} {h : Heap} {Qc : Option Value → Heap → List Loc → Prop}
    (hK : Back l R p e below s args z 3 W (fun A a => a = as' ∧ A.U.heap = h ∧ A.cells + rc ≤ R.cells ∧ A.slots + rs ≤ R.slots) (fun A _ v B => ∃ L, Qc v B.U.heap L ∧ B.locs = A.locs ++ L ∧ B.cells = A.cells + rc ∧ B.slots = A.slots + rs))
    {a : Addr} {cB : ClassId} (hcB : s.vm.findClass Cn = some cB) (hrecv : IsOf cB T a)
    (hg : g.method = m) (hsize : g.locals.size = c.maxLocals) {argsL rest : List Value} (hlen : ∀ sig, parseMethodDescriptor y.desc = some sig → argsL.length = sig.parameters.length)
    (hstack : g.stack = argsL.reverse ++ .ref a :: rest) (hW : 2 * g.monitorRoom + (rest.map fun v => v.category).sum ≤ W) (hdg : decode c.code g.pc = .ok (.invokevirtual index, 3))
    (ha : (Value.ref a :: argsL).toArray = as') (eT : T.heap = h) (hc : cells + rc ≤ R.cells) (hs : slots + rs ≤ R.slots)
    (k : ∀ v T' L, Stand p l e R s m args below meth c T' (locs ++ L) (cells + rc) (slots + rs) → Qc v T'.heap L → own_Go p e below P T' { g with pc := g.pc + 3, stack := v.toList ++ rest }) : own_Go p e below P T g := by
  obtain ⟨v, vm₁, ⟨T', L', k', n'⟩, -, X', ⟨L, hQ, l1, y1, z1⟩, st⟩ := X.virtualBack hx hown hlink hdecl hnf hsel hinst hy hK hcB hrecv hg hsize (Steps.refl _) hlen hstack hW hdg (fun _ _ => ⟨ha, eT, hc, hs⟩)
  dsimp only [Pt.U, Pt.locs, Pt.cells, Pt.slots] at X' l1 y1 z1 st hQ
  subst l1 y1 z1
  exact own_st (fun t k => st.trans k) (k v T' L X' hQ)
theorem own_callI (X : Stand p l e R s m args below meth c T locs cells slots) (hx : p.tables.exec = Jvm.exec) {own Cn : String} {index count : Nat} {xi y : MethodName}
    (hown : s.vm.findClass own = some m.cls) (hlink : (Cond.methodLink own index xi).before args s = true) (hdecl : (Cond.declares xi).before args s = true)
    (hface : (Cond.interfaceMethod xi.cls xi.cls xi.name xi.desc).before args s = true) (hsel : (Cond.selects Cn xi y).before args s = true) (hinst : (Cond.instanceMethod y).before args s = true)
    (hpub : (Cond.publicMethod y).before args s = true) (hunh : (Cond.unhidden Cn xi.name xi.desc).before args s = true) (hcast : (Cond.castable Cn xi.cls).before args s = true)
    (hy : xi.cls ≠ "java/lang/invoke/MethodHandle" ∧ xi.cls ≠ "java/lang/invoke/VarHandle")
    {W rc rs : Nat} {as' : Array Value} {h : Heap} {Qc : Option Value → Heap → List Loc → Prop}
    (hK : Back l R p e below s args y 5 W (fun A a => a = as' ∧ A.U.heap = h ∧ A.cells + rc ≤ R.cells ∧ A.slots + rs ≤ R.slots) (fun A _ v B => ∃ L, Qc v B.U.heap L ∧ B.locs = A.locs ++ L ∧ B.cells = A.cells + rc ∧ B.slots = A.slots + rs))
    {a : Addr} {cB : ClassId} {kB : Class} (hcB : s.vm.findClass Cn = some cB) (hkB : s.vm.classes[cB]? = some kB) (hrecv : IsOf cB T a)
    (hg : g.method = m) (hsize : g.locals.size = c.maxLocals) {argsL rest : List Value} (hlen : ∀ sig, parseMethodDescriptor xi.desc = some sig → argsL.length = sig.parameters.length)
    (hstack : g.stack = argsL.reverse ++ .ref a :: rest) (hW : 2 * g.monitorRoom + (rest.map fun v => v.category).sum ≤ W) (hdg : decode c.code g.pc = .ok (.invokeinterface index count, 5))
    (ha : (Value.ref a :: argsL).toArray = as') (eT : T.heap = h) (hc : cells + rc ≤ R.cells) (hs : slots + rs ≤ R.slots)
    (k : ∀ v T' L, Stand p l e R s m args below meth c T' (locs ++ L) (cells + rc) (slots + rs) → Qc v T'.heap L → own_Go p e below P T' { g with pc := g.pc + 5, stack := v.toList ++ rest }) : own_Go p e below P T g := by
  obtain ⟨v, vm₁, ⟨T', L', k', n'⟩, -, X', ⟨L, hQ, l1, y1, z1⟩, st⟩ := X.interfaceBack hx hown hlink hdecl hface hsel hinst hpub hunh hcast hy hK hcB hkB hrecv hg hsize (Steps.refl _) hlen hstack hW hdg (fun _ _ => ⟨ha, eT, hc, hs⟩)
  dsimp only [Pt.U, Pt.locs, Pt.cells, Pt.slots] at X' l1 y1 z1 st hQ
  subst l1 y1 z1
  exact own_st (fun t k => st.trans k) (k v T' L X' hQ)
theorem own_callP (X : Stand p l e R s m args below meth c T locs cells slots) (hx : p.tables.exec = Jvm.exec) {own : String} {index : Nat} {y : MethodName} {bytes : ByteArray} {maxL : Nat} {ret : Option FieldType}
    (hown : s.vm.findClass own = some m.cls) (hlink : (Cond.methodLink own index y).before args s = true) (hinst : (Cond.instanceMethod y).before args s = true) (hsel : (Cond.selects y.cls y y).before args s = true)
    (hpriv : s.PrivateAt y) (hcode : (Cond.code y bytes maxL ret).before args s = true) (hy : y.cls ≠ "java/lang/invoke/MethodHandle" ∧ y.cls ≠ "java/lang/invoke/VarHandle")
    {W rc rs : Nat} {as' : Array Value} {h : Heap} {Qc : Option Value → Heap → List Loc → Prop}
    (hK : Back l R p e below s args y 3 W (fun A a => a = as' ∧ A.U.heap = h ∧ A.cells + rc ≤ R.cells ∧ A.slots + rs ≤ R.slots) (fun A _ v B => ∃ L, Qc v B.U.heap L ∧ B.locs = A.locs ++ L ∧ B.cells = A.cells + rc ∧ B.slots = A.slots + rs))
    {a : Addr} {cell : Cell} (hcell : T.heap[a]? = some cell) (hobj : ∀ q, cell.vm ≠ .statics q)
    (hg : g.method = m) (hsize : g.locals.size = c.maxLocals) {argsL rest : List Value} (hlen : ∀ sig, parseMethodDescriptor y.desc = some sig → argsL.length = sig.parameters.length)
    (hstack : g.stack = argsL.reverse ++ .ref a :: rest) (hW : 2 * g.monitorRoom + (rest.map fun v => v.category).sum ≤ W) (hdg : decode c.code g.pc = .ok (.invokevirtual index, 3))
    (ha : (Value.ref a :: argsL).toArray = as') (eT : T.heap = h) (hc : cells + rc ≤ R.cells) (hs : slots + rs ≤ R.slots)
    (k : ∀ v T' L, Stand p l e R s m args below meth c T' (locs ++ L) (cells + rc) (slots + rs) → Qc v T'.heap L → own_Go p e below P T' { g with pc := g.pc + 3, stack := v.toList ++ rest }) : own_Go p e below P T g := by
  obtain ⟨v, vm₁, ⟨T', L', k', n'⟩, -, X', ⟨L, hQ, l1, y1, z1⟩, st⟩ := X.privateBack hx hown hlink hinst hsel hpriv hcode hy hK hg hsize (Steps.refl _) hcell hobj hlen hstack hW hdg (fun _ _ => ⟨ha, eT, hc, hs⟩)
  dsimp only [Pt.U, Pt.locs, Pt.cells, Pt.slots] at X' l1 y1 z1 st hQ
  subst l1 y1 z1
  exact own_st (fun t k => st.trans k) (k v T' L X' hQ)
theorem own_callU (X : Stand p l e R s m args below meth c T locs cells slots) (hx : p.tables.exec = Jvm.exec) {own Cn owner : String} {index : Nat} {y z : MethodName}
    (hown : s.vm.findClass own = some m.cls) (hlink : (Cond.methodLink own index y).before args s = true) (hsame : (Cond.sameMethod y.cls owner y.name y.desc).before args s = true)
    (hdecl : (Cond.declares ⟨owner, y.name, y.desc⟩).before args s = true) (howner : owner ≠ "java/lang/invoke/MethodHandle" ∧ owner ≠ "java/lang/invoke/VarHandle")
    (hsel : (Cond.selects Cn y z).before args s = true) (hinst : (Cond.instanceMethod z).before args s = true)
    {W rc rs : Nat} {as' : Array Value} {h : Heap} {Qc : Option Value → Heap → List Loc → Prop}
    (hK : Back l R p e below s args z 3 W (fun A a => a = as' ∧ A.U.heap = h ∧ A.cells + rc ≤ R.cells ∧ A.slots + rs ≤ R.slots) (fun A _ v B => ∃ L, Qc v B.U.heap L ∧ B.locs = A.locs ++ L ∧ B.cells = A.cells + rc ∧ B.slots = A.slots + rs))
    {a : Addr} {cB : ClassId} (hcB : s.vm.findClass Cn = some cB) (hrecv : IsOf cB T a)
    (hg : g.method = m) (hsize : g.locals.size = c.maxLocals) {argsL rest : List Value} (hlen : ∀ sig, parseMethodDescriptor y.desc = some sig → argsL.length = sig.parameters.length)
    (hstack : g.stack = argsL.reverse ++ .ref a :: rest) (hW : 2 * g.monitorRoom + (rest.map fun v => v.category).sum ≤ W) (hdg : decode c.code g.pc = .ok (.invokevirtual index, 3))
    (ha : (Value.ref a :: argsL).toArray = as') (eT : T.heap = h) (hc : cells + rc ≤ R.cells) (hs : slots + rs ≤ R.slots)
    (k : ∀ v T' L, Stand p l e R s m args below meth c T' (locs ++ L) (cells + rc) (slots + rs) → Qc v T'.heap L → own_Go p e below P T' { g with pc := g.pc + 3, stack := v.toList ++ rest }) : own_Go p e below P T g := by
  obtain ⟨v, vm₁, ⟨T', L', k', n'⟩, -, X', ⟨L, hQ, l1, y1, z1⟩, st⟩ := X.virtualBackUp hx hown hlink hsame hdecl howner hsel hinst hK hcB hrecv hg hsize (Steps.refl _) hlen hstack hW hdg (fun _ _ => ⟨ha, eT, hc, hs⟩)
  dsimp only [Pt.U, Pt.locs, Pt.cells, Pt.slots] at X' l1 y1 z1 st hQ
  subst l1 y1 z1
  exact own_st (fun t k => st.trans k) (k v T' L X' hQ)
end Own
section OwnWords
variable {args : Array Value} {s : State} {t u : Term} {x y : Addr} {C n d : String} {z : Int32}
theorem own_feqR (h : (Cond.eq (Term.field t C n d) u).value args s none s [] = some true) (ht : t.eval args s none [] s = some (.ref x)) (hu : u.eval args s none [] s = some (.ref y)) : s.fieldOf? x C n d = some (.ref y) := by
  obtain ⟨x', y', h1, h2, k1, k2⟩ := cmp_v (Or.inl h)
  cases hu.symm.trans h2
  have hr : x'.isRef = true := k2.2
  have := gotT (eq_R h1 h2 hr rfl) h
  rw [← fld_at ht (idx := []) (first := s) (o := none) (args := args), h1, this]
theorem own_feqI (h : (Cond.eq (Term.field t C n d) (.int z)).value args s none s [] = some true) (ht : t.eval args s none [] s = some (.ref x)) : s.fieldOf? x C n d = some (.int z) := by
  obtain ⟨x', y', h1, h2, k1, k2⟩ := cmp_v (Or.inl h)
  cases (Term.int_eval z).symm.trans h2
  obtain ⟨z', rfl⟩ := k2
  have : z' = z := by simpa [Cond.value, h1, Term.int_eval] using h
  rw [← fld_at ht (idx := []) (first := s) (o := none) (args := args), h1, this]
end OwnWords
section OwnArr
variable {args : Array Value} {s : State} {t : Term} {a : Addr} {cl : Cell} {ty : FieldType} {z j v : Int32}
theorem own_len (h : (Cond.eq (Term.length t) (.int z)).value args s none s [] = some true) (ht : t.eval args s none [] s = some (.ref a)) (A : Arr s s.heap a cl ty) : cl.slots.size < 2 ^ 31 ∧ cl.slots.size.toInt32 = z := by
  obtain ⟨x', y', h1, h2, k1, k2⟩ := cmp_v (Or.inl h)
  cases (Term.int_eval z).symm.trans h2
  obtain ⟨z', rfl⟩ := k2
  have e : z' = z := by simpa [Cond.value, h1, Term.int_eval] using h
  have ha := A.fin (Vm.Alike.refl _)
  by_cases q : cl.slots.size < 2 ^ 31
  · rw [len_f ht ha q] at h1
    cases h1
    exact ⟨q, e⟩
  · simp [Term.eval, ht, ha, q] at h1
theorem own_elem (h : (Cond.eq (Term.elem t (.int j)) (.int v)).value args s none s [] = some true) (ht : t.eval args s none [] s = some (.ref a)) (A : Arr s s.heap a cl ty) (hj : ¬ j < 0) : cl.slots[j.toNatClampNeg]? = some (.int v) := by
  obtain ⟨x', y', h1, h2, k1, k2⟩ := cmp_v (Or.inl h)
  cases (Term.int_eval v).symm.trans h2
  obtain ⟨z', rfl⟩ := k2
  have e : z' = v := by simpa [Cond.value, h1, Term.int_eval] using h
  rw [elem_f ht (Term.int_eval j) (A.fin (Vm.Alike.refl _)) hj] at h1
  rw [h1, e]
theorem own_elemR {u : Term} {y : Addr} (h : (Cond.eq (Term.elem t (.int j)) u).value args s none s [] = some true) (ht : t.eval args s none [] s = some (.ref a)) (hu : u.eval args s none [] s = some (.ref y)) (A : Arr s s.heap a cl ty) (hj : ¬ j < 0) : cl.slots[j.toNatClampNeg]? = some (.ref y) := by
  obtain ⟨x', y', h1, h2, k1, k2⟩ := cmp_v (Or.inl h)
  cases hu.symm.trans h2
  have hr : x'.isRef = true := k2.2
  have e := gotT (eq_R h1 h2 hr rfl) h
  rw [elem_f ht (Term.int_eval j) (A.fin (Vm.Alike.refl _)) hj] at h1
  rw [h1, e]
end OwnArr

theorem own_words {Z : State} {a0 : Array Value} (hw : ∀ d ∈ tables_1, d.before a0 Z = true) : ∀ d ∈ StrChars.Road.words, d.before a0 Z = true := fun d hd => hw d ((by decide +kernel : ∀ d ∈ StrChars.Road.words, d ∈ tables_1) d hd)
theorem own_lnil : ∀ c ∈ ([] : List Int32), ¬ c < 0 ∧ ¬ (255 : Int32) < c := fun _ h => nomatch h
theorem own_lcons {a : Int32} {cs : List Int32} (h : ¬ a < 0 ∧ ¬ (255 : Int32) < a) (r : ∀ c ∈ cs, ¬ c < 0 ∧ ¬ (255 : Int32) < c) : ∀ c ∈ a :: cs, ¬ c < 0 ∧ ¬ (255 : Int32) < c := fun c hc => (List.mem_cons.mp hc).elim (fun e => e ▸ h) (r c)
theorem own_lat (y : Int32) (h : 0 ≤ y.toInt ∧ y.toInt ≤ 255) : nar .char y = y ∧ ¬ y < 0 ∧ ¬ (255 : Int32) < y := by
  have c := c_i2c y
  refine ⟨Int32.toInt_inj.mp ?_, ?_, ?_⟩
  · show y.toUInt32.toUInt16.toUInt32.toInt32.toInt = y.toInt
    omega
  · rw [Int32.lt_iff_toInt_lt]; show ¬ y.toInt < 0; omega
  · rw [Int32.lt_iff_toInt_lt]; show ¬ (255 : Int) < y.toInt; omega
theorem own_and255 (x : Int32) : ¬ nar .char ((x &&& (255 : Int32)).toUInt32.toUInt16.toUInt32.toInt32) < 0 ∧ ¬ (255 : Int32) < nar .char ((x &&& (255 : Int32)).toUInt32.toUInt16.toUInt32.toInt32) := by
  have h := c_and x (255 : Int32) (by decide)
  have e := own_lat (x &&& 255) ⟨h.1, h.2⟩
  have e2 : (x &&& (255 : Int32)).toUInt32.toUInt16.toUInt32.toInt32 = x &&& 255 := e.1
  rw [e2, e.1]; exact e.2
theorem own_up {cs : List Int32} (h : ∀ c ∈ cs, ¬ c < 0 ∧ ¬ (255 : Int32) < c) : ∀ c ∈ cs, ¬ c < 0 ∧ ¬ (65535 : Int32) < c := fun c hc => ⟨(h c hc).1, fun q => (h c hc).2 (by rw [Int32.lt_iff_toInt_lt] at q ⊢; have e1 : (65535 : Int32).toInt = 65535 := rfl; have e2 : (255 : Int32).toInt = 255 := rfl; omega)⟩
def own_L (y : Int32) : Prop := 0 ≤ y.toInt ∧ y.toInt ≤ 255
theorem own_i2cL (x : Int32) : own_L ((x &&& (255 : Int32)).toUInt32.toUInt16.toUInt32.toInt32) := by
  have h := c_and x (255 : Int32) (by decide)
  have e2 : (x &&& (255 : Int32)).toUInt32.toUInt16.toUInt32.toInt32 = x &&& 255 := (own_lat (x &&& 255) ⟨h.1, h.2⟩).1
  rw [e2]
  exact h
theorem own_LN {y : Int32} (h : own_L y) : nar .char y = y := (own_lat y h).1
theorem own_LL {y : Int32} (h : own_L y) : ¬ y < 0 ∧ ¬ (255 : Int32) < y := (own_lat y h).2
theorem own_LLN {y : Int32} (h : own_L y) : ¬ nar .char y < 0 ∧ ¬ (255 : Int32) < nar .char y := by rw [own_LN h]; exact own_LL h
theorem own_wLen {Z : State} {a0 : Array Value} (hw : ∀ d ∈ tables_1, d.before a0 Z = true) : ∀ d ∈ StrChars.Road.wordsLen, d.before a0 Z = true := fun d hd => hw d ((by decide +kernel : ∀ d ∈ StrChars.Road.wordsLen, d ∈ tables_1) d hd)
theorem own_wChN {Z : State} {a0 : Array Value} (hw : ∀ d ∈ tables_1, d.before a0 Z = true) : ∀ d ∈ StrChars.Road.wordsChN, d.before a0 Z = true := fun d hd => hw d ((by decide +kernel : ∀ d ∈ StrChars.Road.wordsChN, d ∈ tables_1) d hd)
def own_QI (n : Int32) (h : Heap) (v : Option Value) (h' : Heap) (L : List Loc) : Prop := v = some (.int n) ∧ L = [] ∧ h' = h
theorem own_intB {l : Launch} {R : Room} {p : Program} {e : Env} {below : List Frame} {s : State} {args : Array Value} {y : MethodName} {len W : Nat} {P : Pt → Array Value → Prop} {k n : Int32} {h : Heap} (q : k = n)
    (B : Back l R p e below s args y len W P (fun P _ v B => ∃ L, (v = some (.int k) ∧ L = [] ∧ B.U.heap = h) ∧ B.locs = P.locs ++ L ∧ B.cells = P.cells + 0 ∧ B.slots = P.slots + 0)) :
    Back l R p e below s args y len W P (fun P _ v B => ∃ L, own_QI n h v B.U.heap L ∧ B.locs = P.locs ++ L ∧ B.cells = P.cells + 0 ∧ B.slots = P.slots + 0) := q ▸ B
/-! Walks that may intern: what is kept beside the Stand over 's.setVm vm0'. -/
def own_Bk (Z : State) (EL : List (String × Nat)) (s : State) (h0 : Heap) (vm0 : Vm) (H : Heap) : Prop := (∃ k0, s.Since vm0 k0 ∧ k0 ≤ H.size) ∧ CHr Z EL s.vm h0 vm0 H
abbrev own_EndS (Z : State) (EL : List (String × Nat)) (s : State) (Q : Option Value → Heap → List Loc → Prop) (C S : Nat) : Outcome → State → Prop := fun o s₂ => ∃ v L, o = .returned v ∧ Q v s₂.heap L ∧ CHr Z EL s.vm s.heap s₂.vm s₂.heap ∧ ReturnedEndW s o s₂ L C S
section OwnS
variable {p : Program} {l : Launch} {e : Env} {R : Room} {s : State} {m : MethodId} {args : Array Value} {below : List Frame} {meth : Method} {c : Code} {T T' : State} {locs : List Loc} {cells slots : Nat} {P : Outcome → State → Prop} {g g' : JFrame} {Q : Option Value → Heap → List Loc → Prop} {C S : Nat} {Z : State} {EL : List (String × Nat)} {a0 : Array Value} {h0 H H' h : Heap} {vm0 vm1 : Vm} {a : Addr} {sl : Nat} {v : Value} {ws : List Addr}
theorem own_Bk.start (H : CHv Z EL s.vm h0) : own_Bk Z EL s h0 s.vm h0 := ⟨⟨0, (State.WarmedH.refl s).since 0, Nat.zero_le _⟩, CHr.refl H⟩
theorem own_Bk.ch (B : own_Bk Z EL s h0 vm0 H) : CHv Z EL vm0 H := B.2.1
theorem own_Bk.ext (E : Ext H H') (B : own_Bk Z EL s h0 vm0 H) : own_Bk Z EL s h0 vm0 H' := by
  obtain ⟨⟨k, h1, h2⟩, r⟩ := B
  exact ⟨⟨k, h1, Nat.le_trans h2 E.1⟩, r.trans (CHr.ext E r.1)⟩
theorem own_Bk.wr (W : Wr H H' a sl v) (q : Safe Z EL vm0 H a) (B : own_Bk Z EL s h0 vm0 H) : own_Bk Z EL s h0 vm0 H' := by
  obtain ⟨⟨k, h1, h2⟩, r⟩ := B
  exact ⟨⟨k, h1, by rw [W.size]; exact h2⟩, r.trans (CHr.wr W q r.1)⟩
theorem own_Bk.keep (K : Keep H H' ws) (q : ∀ x ∈ ws, Safe Z EL vm0 H x) (B : own_Bk Z EL s h0 vm0 H) : own_Bk Z EL s h0 vm0 H' := by
  obtain ⟨⟨k, h1, h2⟩, r⟩ := B
  exact ⟨⟨k, h1, Nat.le_trans h2 K.1⟩, r.trans (CHr.keep K q r.1)⟩
theorem own_leaveS (X : Stand p l e R (s.setVm vm0) m args below meth c T locs cells slots) (hZ : Z.Warmed39 vm0) (hEL : EW Z a0 EL) (eT : T.heap = H) (h0e : s.heap = h0) (B : own_Bk Z EL s h0 vm0 H) (hlk : meth.locks = false) {v : Option Value} (hv : meth.sig.returnType = none → v = none)
    (k : ∀ fs, (∀ (f : JFrame) (acts : List Action), f.method = m → f.locked = none → f.entered = [] → (doReturn e (T.setTop f) acts v).1 = T.setFrames fs) → Steps p.tables e below (T.setTop g) (T.setFrames fs))
    (hQ : Q v T.heap locs) (hC : cells ≤ C) (hS : slots ≤ S) : own_Go p e below (own_EndS Z EL s Q C S) T g := by
  obtain ⟨⟨k0, b1, b2⟩, r⟩ := B
  obtain ⟨fs, hr, hrun, hended, hW, hsame⟩ := X.leave hv hlk
  have q := b1.ended hW (show k0 ≤ T.heap.size by rw [eT]; exact b2) hsame
  refine ⟨_, _, k fs hr, hrun, hended, _, _, rfl, hQ, ?_, ⟨_, rfl⟩, q.1, q.2.1, q.2.2.mono hC hS⟩
  have z := r.trans (CHv.at X hZ hEL r.1)
  subst eT h0e
  exact z
theorem own_retNS (X : Stand p l e R (s.setVm vm0) m args below meth c T locs cells slots) (hx : p.tables.exec = Jvm.exec) (hlk : meth.locks = false) (hZ : Z.Warmed39 vm0) (hEL : EW Z a0 EL) (eT : T.heap = H) (h0e : s.heap = h0) (B : own_Bk Z EL s h0 vm0 H) {pc : Nat} {Ls : Array Slot} {z : Int32} {t : FieldType} {rest : List Value} (hret : meth.sig.returnType = some t) (ht : t = .boolean ∨ t = .byte ∨ t = .char ∨ t = .short)
    (hd : decode c.code pc = .ok (.ireturn, 1)) (hQ : Q (some (.int (nar t z))) T.heap locs) (hC : cells ≤ C) (hS : slots ≤ S) : own_Go p e below (own_EndS Z EL s Q C S) T (mkF m pc Ls (.int z :: rest)) :=
  own_leaveS X hZ hEL eT h0e B hlk (fun h => by rw [hret] at h; cases h) (fun fs hr => retN X hx hret ht hd hr) hQ hC hS
theorem own_retIS (X : Stand p l e R (s.setVm vm0) m args below meth c T locs cells slots) (hx : p.tables.exec = Jvm.exec) (hlk : meth.locks = false) (hZ : Z.Warmed39 vm0) (hEL : EW Z a0 EL) (eT : T.heap = H) (h0e : s.heap = h0) (B : own_Bk Z EL s h0 vm0 H) {pc : Nat} {Ls : Array Slot} {z : Int32} {rest : List Value} (hret : meth.sig.returnType = some .int)
    (hd : decode c.code pc = .ok (.ireturn, 1)) (hQ : Q (some (.int z)) T.heap locs) (hC : cells ≤ C) (hS : slots ≤ S) : own_Go p e below (own_EndS Z EL s Q C S) T (mkF m pc Ls (.int z :: rest)) :=
  own_leaveS X hZ hEL eT h0e B hlk (fun h => by rw [hret] at h; cases h) (fun fs hr => retOut X hx hret rfl (Or.inl ⟨rfl, Or.inl rfl, z, rfl⟩) hd hr) hQ hC hS
theorem own_retAS (X : Stand p l e R (s.setVm vm0) m args below meth c T locs cells slots) (hx : p.tables.exec = Jvm.exec) (hlk : meth.locks = false) (hZ : Z.Warmed39 vm0) (hEL : EW Z a0 EL) (eT : T.heap = H) (h0e : s.heap = h0) (B : own_Bk Z EL s h0 vm0 H) {pc : Nat} {Ls : Array Slot} {w : Value} {t : FieldType} {rest : List Value} (hret : meth.sig.returnType = some t) (ht : t.isReference = true) (hw : w.isRef = true)
    (hd : decode c.code pc = .ok (.areturn, 1)) (hQ : Q (some w) T.heap locs) (hC : cells ≤ C) (hS : slots ≤ S) : own_Go p e below (own_EndS Z EL s Q C S) T (mkF m pc Ls (w :: rest)) :=
  own_leaveS X hZ hEL eT h0e B hlk (fun h => by rw [hret] at h; cases h) (fun fs hr => retOut X hx hret (own_narrow_ref ht) (Or.inr (Or.inr (Or.inr (Or.inr ⟨rfl, ht, hw⟩)))) hd hr) hQ hC hS
theorem own_ret0S (X : Stand p l e R (s.setVm vm0) m args below meth c T locs cells slots) (hx : p.tables.exec = Jvm.exec) (hlk : meth.locks = false) (hZ : Z.Warmed39 vm0) (hEL : EW Z a0 EL) (eT : T.heap = H) (h0e : s.heap = h0) (B : own_Bk Z EL s h0 vm0 H) {pc : Nat} {Ls : Array Slot} (hret : meth.sig.returnType = none)
    (hd : decode c.code pc = .ok (.return_, 1)) (hQ : Q none T.heap locs) (hC : cells ≤ C) (hS : slots ≤ S) : own_Go p e below (own_EndS Z EL s Q C S) T (mkF m pc Ls []) :=
  own_leaveS X hZ hEL eT h0e B hlk (fun _ => rfl) (fun fs hr => X.returnOut hx hret hd hr) hQ hC hS
theorem own_ldc (X : Stand p l e R (s.setVm vm0) m args below meth c T locs cells slots) (hx : p.tables.exec = Jvm.exec) (hZ : Z.Warmed39 vm0) {own text : String} {index : Nat} (hown : vm0.findClass own = some m.cls) (w : (Cond.stringLink own index text).before a0 Z = true) (wS : ∀ a ∈ Bundle.stringAtoms, a.before a0 Z = true)
    (eT : T.heap = H) (hEL : EW Z a0 EL) (hmem : (own, index) ∈ EL) (B : own_Bk Z EL s h0 vm0 H)
    {vs : List Value} {z : Int32} (ht : (∀ c ∈ text.toList, c.toNat < 256) ∧ text.toList.map (fun c => Value.int (Jvm.Lit.byteI c.toNat.toUInt16)) = vs) (hz : ¬ z < 0) (hl : z.toNatClampNeg = vs.length)
    (hg : g.method = m) (hd : decode c.code g.pc = .ok (.ldc index, 2)) {n : Nat} (hn : 4 * text.toList.length ≤ n) (hbig : n ≤ 536870912) (hc : cells + 2 ≤ R.cells) (hl' : slots + (n + 4) ≤ R.slots) :
    ∃ (a : Addr) (T' : State) (h' : Heap) (b : Addr) (k : ClassId), Stand p l e R (s.setVm T'.vm) m args below meth c T' locs (cells + 2) (slots + (n + 4)) ∧ T'.heap = h' ∧ Ext H h' ∧ Z.Warmed39 T'.vm ∧ T'.vm.findClass own = some m.cls ∧
      Exa Z h' a "java/lang/String" ∧ Fld Z h' a "java/lang/String" "coder" "B" (.int 0) ∧ Fld Z h' a "java/lang/String" "value" "[B" (.ref b) ∧ Arv Z h' b k .byte z vs (.int 0) ∧ CHr Z EL vm0 H T'.vm h' ∧ own_Bk Z EL s h0 T'.vm h' ∧ (∀ x, Safe Z EL T'.vm h' x → x ≠ a ∧ x ≠ b) ∧
      ∀ target, Steps p.tables e below (T'.setTop { g with pc := g.pc + 2, stack := .ref a :: g.stack }) target → Steps p.tables e below (T.setTop g) target := by
  obtain ⟨⟨k0, b1, b2⟩, r⟩ := B
  obtain ⟨a, T', h', k1, b, k, r1, r2, r3, r4, r5, r6, r7, r8, r9, r10, r11, -, -, r14, -, r16, r17⟩ := ldcCH X hx hZ hown w wS eT b1 b2 hEL hmem r.1 ht hz hl hg hd hn hbig hc hl'
  exact ⟨a, T', h', b, k, r1, r2, r3, r6, r7, r8, r9, r10, r11, r14, ⟨⟨k1, r4, r5⟩, r.trans r14⟩, r16, r17⟩
theorem own_callSS (X : Stand p l e R (s.setVm vm0) m args below meth c T locs cells slots) (hx : p.tables.exec = Jvm.exec) {own : String} {index : Nat} {y : MethodName} {bytes : ByteArray} {maxL : Nat} {ret : Option FieldType}
    (hown : (s.setVm vm0).vm.findClass own = some m.cls) (hlink : (Cond.methodLink own index y).before args (s.setVm vm0) = true) (hstat : (Cond.static y).before args (s.setVm vm0) = true) (hinit : (Cond.initialized y.cls).before args (s.setVm vm0) = true)
    (hcode : (Cond.code y bytes maxL ret).before args (s.setVm vm0) = true) (hy : y.cls ≠ "java/lang/invoke/MethodHandle" ∧ y.cls ≠ "java/lang/invoke/VarHandle")
    {W rc rs : Nat} {as' : Array Value} {Qc : Option Value → Heap → List Loc → Prop}
    (hK : BackS l R p e below (s.setVm vm0) args y 3 W (fun A a => a = as' ∧ A.U.heap = h ∧ A.cells + rc ≤ R.cells ∧ A.slots + rs ≤ R.slots) (fun A _ v B => ∃ L, Qc v B.U.heap L ∧ B.locs = A.locs ++ L ∧ B.cells = A.cells + rc ∧ B.slots = A.slots + rs ∧ CHr Z EL vm0 h B.U.vm B.U.heap))
    (hg : g.method = m) (hsize : g.locals.size = c.maxLocals) {argsL rest : List Value} (hlen : ∀ sig, parseMethodDescriptor y.desc = some sig → argsL.length = sig.parameters.length)
    (hstack : g.stack = argsL.reverse ++ rest) (hW : 2 * g.monitorRoom + (rest.map fun v => v.category).sum ≤ W) (hdg : decode c.code g.pc = .ok (.invokestatic index, 3))
    (ha : argsL.toArray = as') (eT : T.heap = h) (hc : cells + rc ≤ R.cells) (hs : slots + rs ≤ R.slots) (hZ : Z.Warmed39 vm0) (B : own_Bk Z EL s h0 vm0 h)
    (k : ∀ v T' L, Stand p l e R (s.setVm T'.vm) m args below meth c T' (locs ++ L) (cells + rc) (slots + rs) → Qc v T'.heap L → CHr Z EL vm0 h T'.vm T'.heap → own_Bk Z EL s h0 T'.vm T'.heap → Z.Warmed39 T'.vm → T'.vm.findClass own = some m.cls → own_Go p e below P T' { g with pc := g.pc + 3, stack := v.toList ++ rest }) : own_Go p e below P T g := by
  obtain ⟨v, vm₁, ⟨T', L', k', n'⟩, -, X', hS', hgr, ⟨L, hQ, l1, y1, z1, hC⟩, st⟩ := callSS X hx hown hlink hstat hinit hcode hy hK hg hsize hlen hstack hW hdg (fun _ _ => ⟨ha, eT, hc, hs⟩)
  dsimp only [Pt.U, Pt.locs, Pt.cells, Pt.slots] at X' l1 y1 z1 st hQ hS' hgr hC
  subst l1 y1 z1
  obtain ⟨⟨k0, b1, b2⟩, r⟩ := B
  have hS2 := foldS b1 (show k0 ≤ T.heap.size by rw [eT]; exact b2) hS' hgr
  exact own_st (fun t k => st.trans k) (k v T' L X' hQ hC ⟨⟨_, hS2, Nat.le_refl _⟩, r.trans hC⟩ (State.Warmed39.trans (t := s.setVm vm0) hZ hS'.1) (by rw [hS'.1.alike.findClass]; exact hown))
theorem own_callNS (X : Stand p l e R (s.setVm vm0) m args below meth c T locs cells slots) (hx : p.tables.exec = Jvm.exec) {own : String} {index : Nat} {y : MethodName} {bytes : ByteArray} {maxL : Nat} (hy1 : y.name = "<init>")
    (hown : (s.setVm vm0).vm.findClass own = some m.cls) (hlink : (Cond.methodLink own index y).before args (s.setVm vm0) = true) (hinst : (Cond.instanceMethod y).before args (s.setVm vm0) = true)
    (hcode : (Cond.code y bytes maxL none).before args (s.setVm vm0) = true) (hy : y.cls ≠ "java/lang/invoke/MethodHandle" ∧ y.cls ≠ "java/lang/invoke/VarHandle")
    {W rc rs : Nat} {as' : Array Value} {Qc : Option Value → Heap → List Loc → Prop}
    (hK : BackS l R p e below (s.setVm vm0) args y 3 W (fun A a => a = as' ∧ A.U.heap = h ∧ A.cells + rc ≤ R.cells ∧ A.slots + rs ≤ R.slots) (fun A _ v B => ∃ L, Qc v B.U.heap L ∧ B.locs = A.locs ++ L ∧ B.cells = A.cells + rc ∧ B.slots = A.slots + rs ∧ CHr Z EL vm0 h B.U.vm B.U.heap))
    {a : Addr} (hg : g.method = m) (hsize : g.locals.size = c.maxLocals) {argsL rest : List Value} (hlen : ∀ sig, parseMethodDescriptor y.desc = some sig → argsL.length = sig.parameters.length)
    (hstack : g.stack = argsL.reverse ++ .ref a :: rest) (hW : 2 * g.monitorRoom + (rest.map fun v => v.category).sum ≤ W) (hdg : decode c.code g.pc = .ok (.invokespecial index, 3))
    (ha : (Value.ref a :: argsL).toArray = as') (eT : T.heap = h) (hc : cells + rc ≤ R.cells) (hs : slots + rs ≤ R.slots) (hZ : Z.Warmed39 vm0) (B : own_Bk Z EL s h0 vm0 h)
    (k : ∀ v T' L, Stand p l e R (s.setVm T'.vm) m args below meth c T' (locs ++ L) (cells + rc) (slots + rs) → Qc v T'.heap L → CHr Z EL vm0 h T'.vm T'.heap → own_Bk Z EL s h0 T'.vm T'.heap → Z.Warmed39 T'.vm → T'.vm.findClass own = some m.cls → own_Go p e below P T' { g with pc := g.pc + 3, stack := v.toList ++ rest }) : own_Go p e below P T g := by
  obtain ⟨v, vm₁, ⟨T', L', k', n'⟩, -, X', hS', hgr, ⟨L, hQ, l1, y1, z1, hC⟩, st⟩ := X.specialBackS hx hy1 hown hlink hinst hcode hy hK hg hsize (Steps.refl _) hlen hstack hW hdg (fun _ _ => ⟨ha, eT, hc, hs⟩)
  dsimp only [Pt.U, Pt.locs, Pt.cells, Pt.slots] at X' l1 y1 z1 st hQ hS' hgr hC
  subst l1 y1 z1
  obtain ⟨⟨k0, b1, b2⟩, r⟩ := B
  have hS2 := foldS b1 (show k0 ≤ T.heap.size by rw [eT]; exact b2) hS' hgr
  exact own_st (fun t k => st.trans k) (k v T' L X' hQ hC ⟨⟨_, hS2, Nat.le_refl _⟩, r.trans hC⟩ (State.Warmed39.trans (t := s.setVm vm0) hZ hS'.1) (by rw [hS'.1.alike.findClass]; exact hown))
theorem own_callVS (X : Stand p l e R (s.setVm vm0) m args below meth c T locs cells slots) (hx : p.tables.exec = Jvm.exec) {own Cn : String} {index : Nat} {y z : MethodName}
    (hown : (s.setVm vm0).vm.findClass own = some m.cls) (hlink : (Cond.methodLink own index y).before args (s.setVm vm0) = true) (hdecl : (Cond.declares y).before args (s.setVm vm0) = true) (hnf : NotFace (s.setVm vm0) y)
    (hsel : (Cond.selects Cn y z).before args (s.setVm vm0) = true) (hinst : (Cond.instanceMethod z).before args (s.setVm vm0) = true)
    (hy : y.cls ≠ "java/lang/invoke/MethodHandle" ∧ y.cls ≠ "java/lang/invoke/VarHandle")
    {W rc rs : Nat} {as' : Array Value} {Qc : Option Value → Heap → List Loc → Prop}
    (hK : BackS l R p e below (s.setVm vm0) args z 3 W (fun A a => a = as' ∧ A.U.heap = h ∧ A.cells + rc ≤ R.cells ∧ A.slots + rs ≤ R.slots) (fun A _ v B => ∃ L, Qc v B.U.heap L ∧ B.locs = A.locs ++ L ∧ B.cells = A.cells + rc ∧ B.slots = A.slots + rs ∧ CHr Z EL vm0 h B.U.vm B.U.heap))
    {a : Addr} {cB : ClassId} (hcB : (s.setVm vm0).vm.findClass Cn = some cB) (hrecv : IsOf cB T a)
    (hg : g.method = m) (hsize : g.locals.size = c.maxLocals) {argsL rest : List Value} (hlen : ∀ sig, parseMethodDescriptor y.desc = some sig → argsL.length = sig.parameters.length)
    (hstack : g.stack = argsL.reverse ++ .ref a :: rest) (hW : 2 * g.monitorRoom + (rest.map fun v => v.category).sum ≤ W) (hdg : decode c.code g.pc = .ok (.invokevirtual index, 3))
    (ha : (Value.ref a :: argsL).toArray = as') (eT : T.heap = h) (hc : cells + rc ≤ R.cells) (hs : slots + rs ≤ R.slots) (hZ : Z.Warmed39 vm0) (B : own_Bk Z EL s h0 vm0 h)
    (k : ∀ v T' L, Stand p l e R (s.setVm T'.vm) m args below meth c T' (locs ++ L) (cells + rc) (slots + rs) → Qc v T'.heap L → CHr Z EL vm0 h T'.vm T'.heap → own_Bk Z EL s h0 T'.vm T'.heap → Z.Warmed39 T'.vm → T'.vm.findClass own = some m.cls → own_Go p e below P T' { g with pc := g.pc + 3, stack := v.toList ++ rest }) : own_Go p e below P T g := by
  obtain ⟨v, vm₁, ⟨T', L', k', n'⟩, -, X', hS', hgr, ⟨L, hQ, l1, y1, z1, hC⟩, st⟩ := X.virtualBackS hx hown hlink hdecl hnf hsel hinst hy hK hcB hrecv hg hsize (Steps.refl _) hlen hstack hW hdg (fun _ _ => ⟨ha, eT, hc, hs⟩)
  dsimp only [Pt.U, Pt.locs, Pt.cells, Pt.slots] at X' l1 y1 z1 st hQ hS' hgr hC
  subst l1 y1 z1
  obtain ⟨⟨k0, b1, b2⟩, r⟩ := B
  have hS2 := foldS b1 (show k0 ≤ T.heap.size by rw [eT]; exact b2) hS' hgr
  exact own_st (fun t k => st.trans k) (k v T' L X' hQ hC ⟨⟨_, hS2, Nat.le_refl _⟩, r.trans hC⟩ (State.Warmed39.trans (t := s.setVm vm0) hZ hS'.1) (by rw [hS'.1.alike.findClass]; exact hown))
end OwnS

theorem own_EL {Z : State} {a0 : Array Value} (hw : ∀ d ∈ tables_1, d.before a0 Z = true) : EW Z a0 consts_1 := (EW.cons (hw _ (List.mem_of_getElem? (i := 24) rfl)) (by decide) EW.nil)
theorem own_wS {Z : State} {a0 : Array Value} (hw : ∀ d ∈ tables_1, d.before a0 Z = true) : ∀ a ∈ Bundle.stringAtoms, a.before a0 Z = true := fun d hd => hw d ((by decide +kernel : ∀ d ∈ Bundle.stringAtoms, d ∈ tables_1) d hd)
theorem own_safeNull {Z : State} {EL : List (String × Nat)} {vm : Vm} {h : Heap} {x : Addr} (hal : Z.vm.Alike vm) (E : Exa Z h x "java/lang/String") (F : Fld Z h x "java/lang/String" "value" "[B" .null) : Safe Z EL vm h x := fun B => by
  obtain ⟨cell, cf, k, i, f, f1, f2, -, -, -, -, f7⟩ := F
  obtain ⟨cell', k', e1, e2, e3, -, -⟩ := E
  cases f1.symm.trans e1
  obtain ⟨p, -, u, a, -, q, -, F', rfl | rfl⟩ := B
  · cases (show h[q.sa]? = some q.sC from F'.ha).symm.trans f1
    obtain ⟨cS, ⟨⟨s1, s2, s3, ⟨cv, kv, iv, s4, s4'⟩, s5, s6, s7, s8, s9⟩, -, -⟩, -⟩ := F'
    obtain ⟨kv', z4⟩ := ff_back (U := Wst Z vm h) hal s4
    cases f2.symm.trans z4
    rw [f7] at s8
    cases s8
  · cases (show h[q.sd]? = some q.SA from F'.hd).symm.trans f1
    obtain ⟨cS, -, -, g, -⟩ := F'
    have g' : vm.findClass "[B" = some q.SA.cls := g
    rw [hal.findClass] at g'
    obtain ⟨k1, q1, q2⟩ := Vm.findClass_spec g'
    obtain ⟨k2, q3, q4⟩ := Vm.findClass_spec e2
    cases q1.symm.trans q3
    exact absurd (q2.symm.trans q4) (by decide)
theorem own_arvNe {Z : State} {h : Heap} {a b : Addr} {k k' : ClassId} {t t' : FieldType} {z z' : Int32} {vs vs' : List Value} {d d' : Value} (A : Arv Z h a k t z vs d) (B : Arv Z h b k' t' z' vs' d') (hn : t ≠ t') : a ≠ b := fun e => by
  subst e
  obtain ⟨c, ⟨a1, ⟨-, ka, a2, ca, a3⟩, -⟩, -⟩ := A
  obtain ⟨c', ⟨b1, ⟨-, kb, b2, cb, b3⟩, -⟩, -⟩ := B
  cases a1.symm.trans b1
  cases a2.symm.trans b2
  have e := a3.symm.trans b3
  injection e with _ e2
  exact hn e2
def QE (Z : State) (x : Addr) (h0 : Heap) (n0 : Nat) (v : Option Value) (h : Heap) (L : List Loc) : Prop := v = none ∧ Fr n0 L ∧ Keep h0 h [x] ∧ Exa Z h x "java/lang/String" ∧ Fld Z h x "java/lang/String" "coder" "B" (.int 0) ∧ ∃ (t : Addr) (kb : ClassId), ¬ t = x ∧ Fld Z h x "java/lang/String" "value" "[B" (.ref t) ∧ Arv Z h t kb .byte (0 : Int32) [] (.int 0)
theorem d1_0 : decode jdk_42_method_149_code 0 = .ok (.aload_n 0, 1) := by decide +kernel
theorem d1_1 : decode jdk_42_method_149_code 1 = .ok (.invokespecial 1, 3) := by decide +kernel
theorem d1_4 : decode jdk_42_method_149_code 4 = .ok (.iload_n 3, 1) := by decide +kernel
theorem d1_5 : decode jdk_42_method_149_code 5 = .ok (.ifCond .ne 22, 3) := by decide +kernel
theorem d1_8 : decode jdk_42_method_149_code 8 = .ok (.aload_n 0, 1) := by decide +kernel
theorem d1_9 : decode jdk_42_method_149_code 9 = .ok (.ldc 7, 2) := by decide +kernel
theorem d1_11 : decode jdk_42_method_149_code 11 = .ok (.getfield 9, 3) := by decide +kernel
theorem d1_14 : decode jdk_42_method_149_code 14 = .ok (.putfield 9, 3) := by decide +kernel
theorem d1_17 : decode jdk_42_method_149_code 17 = .ok (.aload_n 0, 1) := by decide +kernel
theorem d1_18 : decode jdk_42_method_149_code 18 = .ok (.ldc 7, 2) := by decide +kernel
theorem d1_20 : decode jdk_42_method_149_code 20 = .ok (.getfield 15, 3) := by decide +kernel
theorem d1_23 : decode jdk_42_method_149_code 23 = .ok (.putfield 15, 3) := by decide +kernel
theorem d1_26 : decode jdk_42_method_149_code 26 = .ok (.return_, 1) := by decide +kernel
theorem pn_0 : plainName "java/lang/String" = true := by first | (simp [plainName, overriddenIn]; done) | decide +kernel
theorem ef_rmE1 (m : MethodId) (x0 : Addr) (x1 : Addr) (x2 : Int32) (x3 : Int32) : entryFrame m #[(.ref x0), (.ref x1), (.int x2), (.int x3), .null] 6 = mkF m 0 #[.val (.ref x0), .val (.ref x1), .val (.int x2), .val (.int x3), .val .null, .unset] [] := by first | (simp [entryFrame, mkF, argsToLocals, Value.category]; done) | rfl
set_option maxRecDepth 65536 in
set_option maxHeartbeats 40000000 in
theorem rmE1 (l : Launch) (Z : State) (a0 : Array Value) (hw : ∀ d ∈ tables_1, d.before a0 Z = true) (ws : List Jvm.Cond) (x b : Addr) (h0 : Heap) (n0 : Nat) (Z0 : n0 ≤ h0.size) (g_x : n0 ≤ x) (Ex : Exa Z h0 x "java/lang/String") (Fv : Fld Z h0 x "java/lang/String" "value" "[B" .null) (Fc : Fld Z h0 x "java/lang/String" "coder" "B" (.int (0 : Int32))) :
    MetFree l (⟨"java/lang/String", "<init>", "([CIILjava/lang/Void;)V"⟩ : MethodName) (head1 (Jvm.Cond.code (⟨"java/lang/String", "<init>", "([CIILjava/lang/Void;)V"⟩ : MethodName) jdk_42_method_149_code 6 none :: ws) ({ frames := 1, cells := 4, slots := 8, locals := 12 } : Room)) (fun a_ U_ => a_ = #[(.ref x), (.ref b), (.int (0 : Int32)), (.int (0 : Int32)), .null] ∧ Z.Warmed39 U_.vm ∧ U_.heap = h0 ∧ CHv Z consts_1 U_.vm h0) (fun _ _ _ _ _ => True) (fun _ U_ o_ U'_ => ∃ v_ L_, o_ = .returned v_ ∧ QE Z x h0 n0 v_ U'_.heap L_ ∧ CHr Z consts_1 U_.vm U_.heap U'_.vm U'_.heap ∧ ReturnedEndW U_ o_ U'_ L_ ({ frames := 1, cells := 4, slots := 8, locals := 12 } : Room).cells ({ frames := 1, cells := 4, slots := 8, locals := 12 } : Room).slots) := by
  refine MetFree.of_bodySF (plainFor_of_name pn_0) hisR ?_
  intro p e s m args below meth c s₁ Bd hml0 hP hK
  obtain ⟨rfl, hZ, hh, hC0⟩ := hP
  have hx := Bd.exec
  have hby := Bd.bytes
  have hml : c.maxLocals = 6 := hml0
  have hown : s.vm.findClass "java/lang/String" = some m.cls := findClass_of_methodNamed Bd.named
  have hnm := (name_of_methodNamed Bd.named Bd.method).1
  have hlk := BodyLoose.notSynchronized Bd
  have X0 : Stand p l e ({ frames := 1, cells := 4, slots := 8, locals := 12 } : Room) (s.setVm s.vm) m #[(.ref x), (.ref b), (.int (0 : Int32)), (.int (0 : Int32)), .null] below meth c s₁ [] 0 0 := Stand.of_body Bd
  have e0 : s₁.heap = h0 := by rw [← hh, Bd.state]; rfl
  have N0 := Fr.nil n0
  have hEL := own_EL hw
  have B0 : own_Bk Z consts_1 s h0 s.vm h0 := own_Bk.start hC0
  refine own_entry (P := own_EndS Z consts_1 s (QE Z x h0 n0) ({ frames := 1, cells := 4, slots := 8, locals := 12 } : Room).cells ({ frames := 1, cells := 4, slots := 8, locals := 12 } : Room).slots) (ef_rmE1 m x b (0 : Int32) (0 : Int32)) ?_
  show own_Go p e below _ s₁ (mkF m 0 #[.val (.ref x), .val (.ref b), .val (.int (0 : Int32)), .val (.int (0 : Int32)), .val .null, .unset] [])
  have Sfx := own_safeNull (EL := consts_1) hZ.alike Ex Fv
  refine own_st (fun t_ k_ => XS.aloadN X0.here hx rfl (hb hby d1_0) rfl rfl k_) ?_
  show own_Go p e below _ s₁ (mkF m 1 #[.val (.ref x), .val (.ref b), .val (.int (0 : Int32)), .val (.int (0 : Int32)), .val .null, .unset] [(.ref x)])
  obtain ⟨T1, X1, e1, st1⟩ := initO X0 hx hZ hown (hw _ (List.mem_of_getElem? (i := 21) rfl)) (hw _ (List.mem_of_getElem? (i := 22) rfl)) (hw _ (List.mem_of_getElem? (i := 23) rfl)) e0 (g := (mkF m 1 #[.val (.ref x), .val (.ref b), .val (.int (0 : Int32)), .val (.int (0 : Int32)), .val .null, .unset] [(.ref x)])) rfl (by rw [hml]; rfl) rfl (hb hby d1_1) (by decide) (W := 0) (by show 2 * 0 + _ ≤ _; exact Nat.le_of_eq rfl) (by decide)
  refine own_st st1 ?_
  show own_Go p e below _ T1 (mkF m 4 #[.val (.ref x), .val (.ref b), .val (.int (0 : Int32)), .val (.int (0 : Int32)), .val .null, .unset] [])
  refine own_st (fun t_ k_ => XS.iloadN X1.here hx rfl (hb hby d1_4) rfl k_) ?_
  show own_Go p e below _ T1 (mkF m 5 #[.val (.ref x), .val (.ref b), .val (.int (0 : Int32)), .val (.int (0 : Int32)), .val .null, .unset] [(.int (0 : Int32))])
  refine own_st (fun t_ k_ => XS.ifNo X1.here hx rfl (hb hby d1_5) rfl (by decide) k_) ?_
  show own_Go p e below _ T1 (mkF m 8 #[.val (.ref x), .val (.ref b), .val (.int (0 : Int32)), .val (.int (0 : Int32)), .val .null, .unset] [])
  refine own_st (fun t_ k_ => XS.aloadN X1.here hx rfl (hb hby d1_8) rfl rfl k_) ?_
  show own_Go p e below _ T1 (mkF m 9 #[.val (.ref x), .val (.ref b), .val (.int (0 : Int32)), .val (.int (0 : Int32)), .val .null, .unset] [(.ref x)])
  obtain ⟨la2, T2, h2, lb2, kb2, X2, e2, E2, hZ, hown, Ex2, Cd2, Vl2, Ar2, CH2, B2, ns2, st2⟩ := own_ldc X1 hx hZ hown (hw _ (List.mem_of_getElem? (i := 24) rfl)) (own_wS hw) e1 hEL (by decide) B0 (vs := []) (z := (0 : Int32)) ⟨by decide, rfl⟩ (by decide) rfl (g := (mkF m 9 #[.val (.ref x), .val (.ref b), .val (.int (0 : Int32)), .val (.int (0 : Int32)), .val .null, .unset] [(.ref x)])) rfl (hb hby d1_9) (n := 0) (by decide) (by decide) (by decide) (by decide)
  have hZ : Z.Warmed39 (s.setVm T2.vm).vm := hZ
  have hown : (s.setVm T2.vm).vm.findClass "java/lang/String" = some m.cls := hown
  refine own_st st2 ?_
  have K2 : Keep h0 h2 [x] := (Keep.refl h0 [x]).ext E2
  have hpl2 : ∀ c ∈ ([] : List Int32), ¬ c < 0 ∧ ¬ (255 : Int32) < c := by decide
  show own_Go p e below _ T2 (mkF m 11 #[.val (.ref x), .val (.ref b), .val (.int (0 : Int32)), .val (.int (0 : Int32)), .val .null, .unset] [(.ref la2), (.ref x)])
  obtain ⟨T3, X3, e3, st3⟩ := getF X2 hx hZ hown (host := "") (Or.inl (hw _ (List.mem_of_getElem? (i := 30) rfl))) Via.refl e2 Vl2 (g := (mkF m 11 #[.val (.ref x), .val (.ref b), .val (.int (0 : Int32)), .val (.int (0 : Int32)), .val .null, .unset] [(.ref la2), (.ref x)])) rfl rfl (hb hby d1_11)
  refine own_st st3 ?_
  show own_Go p e below _ T3 (mkF m 14 #[.val (.ref x), .val (.ref b), .val (.int (0 : Int32)), .val (.int (0 : Int32)), .val .null, .unset] [(.ref lb2), (.ref x)])
  have f5 := (Fld.ext E2 Fv)
  have f6 := (Exa.ext E2 Ex)
  obtain ⟨T4, h4, X4, e4, W4, st4⟩ := putF X3 hx hZ hown (host := "") (Or.inl (hw _ (List.mem_of_getElem? (i := 30) rfl))) Via.refl e3 f5 f6 (Or.inr ⟨(hw _ (List.mem_of_getElem? (i := 26) rfl)), rfl, hnm⟩) (hw _ (List.mem_of_getElem? (i := 11) rfl)) (ty := (.array .byte)) (by decide) rfl rfl (g := (mkF m 14 #[.val (.ref x), .val (.ref b), .val (.int (0 : Int32)), .val (.int (0 : Int32)), .val .null, .unset] [(.ref lb2), (.ref x)])) rfl rfl (hb hby d1_14)
  refine own_st st4 ?_
  have f7 := (CHr.safe CH2 Ex.lt Sfx)
  have Sw4 := f7
  have B4 := own_Bk.wr W4 Sw4 B2
  have N4 := Fr.snoc X4 N0 g_x
  have K4 : Keep h0 h4 [x] := K2.wr W4 (Or.inl (List.mem_of_getElem? (i := 0) rfl))
  have Fw4 := Fld.same W4 f5
  show own_Go p e below _ T4 (mkF m 17 #[.val (.ref x), .val (.ref b), .val (.int (0 : Int32)), .val (.int (0 : Int32)), .val .null, .unset] [])
  refine own_st (fun t_ k_ => XS.aloadN X4.here hx rfl (hb hby d1_17) rfl rfl k_) ?_
  show own_Go p e below _ T4 (mkF m 18 #[.val (.ref x), .val (.ref b), .val (.int (0 : Int32)), .val (.int (0 : Int32)), .val .null, .unset] [(.ref x)])
  have f9 := (Safe.wr W4 Sw4 (own_Bk.ch B2) f7)
  obtain ⟨la8, T8, h8, lb8, kb8, X8, e8, E8, hZ, hown, Ex8, Cd8, Vl8, Ar8, CH8, B8, ns8, st8⟩ := own_ldc X4 hx hZ hown (hw _ (List.mem_of_getElem? (i := 24) rfl)) (own_wS hw) e4 hEL (by decide) B4 (vs := []) (z := (0 : Int32)) ⟨by decide, rfl⟩ (by decide) rfl (g := (mkF m 18 #[.val (.ref x), .val (.ref b), .val (.int (0 : Int32)), .val (.int (0 : Int32)), .val .null, .unset] [(.ref x)])) rfl (hb hby d1_18) (n := 0) (by decide) (by decide) (by decide) (by decide)
  have hZ : Z.Warmed39 (s.setVm T8.vm).vm := hZ
  have hown : (s.setVm T8.vm).vm.findClass "java/lang/String" = some m.cls := hown
  refine own_st st8 ?_
  have K8 : Keep h0 h8 [x] := K4.ext E8
  have hpl8 : ∀ c ∈ ([] : List Int32), ¬ c < 0 ∧ ¬ (255 : Int32) < c := by decide
  show own_Go p e below _ T8 (mkF m 20 #[.val (.ref x), .val (.ref b), .val (.int (0 : Int32)), .val (.int (0 : Int32)), .val .null, .unset] [(.ref la8), (.ref x)])
  obtain ⟨T10, X10, e10, st10⟩ := getF X8 hx hZ hown (host := "") (Or.inl (hw _ (List.mem_of_getElem? (i := 31) rfl))) Via.refl e8 Cd8 (g := (mkF m 20 #[.val (.ref x), .val (.ref b), .val (.int (0 : Int32)), .val (.int (0 : Int32)), .val .null, .unset] [(.ref la8), (.ref x)])) rfl rfl (hb hby d1_20)
  refine own_st st10 ?_
  show own_Go p e below _ T10 (mkF m 23 #[.val (.ref x), .val (.ref b), .val (.int (0 : Int32)), .val (.int (0 : Int32)), .val .null, .unset] [(.int (0 : Int32)), (.ref x)])
  have f12 := (Fld.ext E2 Fc)
  have f13 := (Fld.other W4 f12 (Or.inr (slot_ne (Or.inr (hw _ (List.mem_of_getElem? (i := 27) rfl))) (Or.inr (hw _ (List.mem_of_getElem? (i := 26) rfl))) (by decide) (t := .byte) (t' := (.array .byte)) (by decide) (by decide))))
  have f14 := (Fld.ext E8 f13)
  have f15 := (Exa.wr W4 f6)
  have f16 := (Exa.ext E8 f15)
  obtain ⟨T11, h11, X11, e11, W11, st11⟩ := putFN X10 hx hZ hown (hw _ (List.mem_of_getElem? (i := 31) rfl)) Via.refl e10 f14 f16 (Or.inr ⟨(hw _ (List.mem_of_getElem? (i := 27) rfl)), rfl, hnm⟩) (hw _ (List.mem_of_getElem? (i := 11) rfl)) (ty := .byte) (v' := (.int (0 : Int32))) (by decide) rfl (by decide) (g := (mkF m 23 #[.val (.ref x), .val (.ref b), .val (.int (0 : Int32)), .val (.int (0 : Int32)), .val .null, .unset] [(.int (0 : Int32)), (.ref x)])) rfl rfl (hb hby d1_23)
  refine own_st st11 ?_
  have f17 := (CHr.safe CH8 f15.lt f9)
  have Sw11 := f17
  have B11 := own_Bk.wr W11 Sw11 B8
  have N11 := Fr.snoc X11 N4 g_x
  have K11 : Keep h0 h11 [x] := K8.wr W11 (Or.inl (List.mem_of_getElem? (i := 0) rfl))
  have Fw11 := Fld.same W11 f14
  show own_Go p e below _ T11 (mkF m 26 #[.val (.ref x), .val (.ref b), .val (.int (0 : Int32)), .val (.int (0 : Int32)), .val .null, .unset] [])
  have f18 := (Fld.ext E8 Fw4)
  have f19 := (Fld.other W11 f18 (Or.inr (slot_ne (Or.inr (hw _ (List.mem_of_getElem? (i := 26) rfl))) (Or.inr (hw _ (List.mem_of_getElem? (i := 27) rfl))) (by decide) (t := (.array .byte)) (t' := .byte) (by decide) (by decide))))
  have f20 := (Exa.wr W11 f16)
  have ne21 : x ≠ lb2 := (ns2 _ f7).2
  have f22 := (Ar2.other W4 (Ne.symm ne21))
  have f23 := (f22.ext E8)
  have f24 := (f23.other W11 (Ne.symm ne21))
  refine own_ret0S X11 hx hlk hZ hEL e11 hh B11 Bd.returns (hb hby d1_26) ?_ (by decide) (by decide)
  show QE Z x h0 n0 _ T11.heap _
  rw [e11]
  exact ⟨rfl, N11, K11, f20, Fw11, lb2, _, (Ne.symm ne21), f19, f24⟩
theorem d2_0 : decode jdk_42_method_3_code 0 = .ok (.aload_n 0, 1) := by decide +kernel
theorem d2_1 : decode jdk_42_method_3_code 1 = .ok (.aload_n 1, 1) := by decide +kernel
theorem d2_2 : decode jdk_42_method_3_code 2 = .ok (.iconst 0, 1) := by decide +kernel
theorem d2_3 : decode jdk_42_method_3_code 3 = .ok (.aload_n 1, 1) := by decide +kernel
theorem d2_4 : decode jdk_42_method_3_code 4 = .ok (.arraylength, 1) := by decide +kernel
theorem d2_5 : decode jdk_42_method_3_code 5 = .ok (.aconst_null, 1) := by decide +kernel
theorem d2_6 : decode jdk_42_method_3_code 6 = .ok (.invokespecial 27, 3) := by decide +kernel
theorem pd_0 : parseMethodDescriptor "([CIILjava/lang/Void;)V" = some ⟨[(.array .char), .int, .int, (.object "java/lang/Void")], none⟩ := by decide +kernel
theorem d2_9 : decode jdk_42_method_3_code 9 = .ok (.return_, 1) := by decide +kernel
theorem ef_rmE0 (m : MethodId) (x0 : Addr) (x1 : Addr) : entryFrame m #[(.ref x0), (.ref x1)] 2 = mkF m 0 #[.val (.ref x0), .val (.ref x1)] [] := by first | (simp [entryFrame, mkF, argsToLocals, Value.category]; done) | rfl
set_option maxRecDepth 65536 in
set_option maxHeartbeats 40000000 in
theorem rmE0 (l : Launch) (Z : State) (a0 : Array Value) (hw : ∀ d ∈ tables_1, d.before a0 Z = true) (ws : List Jvm.Cond) (x b : Addr) (kc : ClassId) (h0 : Heap) (n0 : Nat) (Z0 : n0 ≤ h0.size) (g_x : n0 ≤ x) (Ex : Exa Z h0 x "java/lang/String") (Fv : Fld Z h0 x "java/lang/String" "value" "[B" .null) (Fc : Fld Z h0 x "java/lang/String" "coder" "B" (.int (0 : Int32))) (Ab : Arv Z h0 b kc .char (0 : Int32) [] (.int (0 : Int32))) :
    MetFree l (⟨"java/lang/String", "<init>", "([C)V"⟩ : MethodName) (head1 (Jvm.Cond.code (⟨"java/lang/String", "<init>", "([C)V"⟩ : MethodName) jdk_42_method_3_code 2 none :: ws) ({ frames := 2, cells := 4, slots := 8, locals := 29 } : Room)) (fun a_ U_ => a_ = #[(.ref x), (.ref b)] ∧ Z.Warmed39 U_.vm ∧ U_.heap = h0 ∧ CHv Z consts_1 U_.vm h0) (fun _ _ _ _ _ => True) (fun _ U_ o_ U'_ => ∃ v_ L_, o_ = .returned v_ ∧ QE Z x h0 n0 v_ U'_.heap L_ ∧ CHr Z consts_1 U_.vm U_.heap U'_.vm U'_.heap ∧ ReturnedEndW U_ o_ U'_ L_ ({ frames := 2, cells := 4, slots := 8, locals := 29 } : Room).cells ({ frames := 2, cells := 4, slots := 8, locals := 29 } : Room).slots) := by
  refine MetFree.of_bodySF (plainFor_of_name pn_0) hisR ?_
  intro p e s m args below meth c s₁ Bd hml0 hP hK
  obtain ⟨rfl, hZ, hh, hC0⟩ := hP
  have hx := Bd.exec
  have hby := Bd.bytes
  have hml : c.maxLocals = 2 := hml0
  have hown : s.vm.findClass "java/lang/String" = some m.cls := findClass_of_methodNamed Bd.named
  have hnm := (name_of_methodNamed Bd.named Bd.method).1
  have hlk := BodyLoose.notSynchronized Bd
  have X0 : Stand p l e ({ frames := 2, cells := 4, slots := 8, locals := 29 } : Room) (s.setVm s.vm) m #[(.ref x), (.ref b)] below meth c s₁ [] 0 0 := Stand.of_body Bd
  have e0 : s₁.heap = h0 := by rw [← hh, Bd.state]; rfl
  have N0 := Fr.nil n0
  have hEL := own_EL hw
  have B0 : own_Bk Z consts_1 s h0 s.vm h0 := own_Bk.start hC0
  refine own_entry (P := own_EndS Z consts_1 s (QE Z x h0 n0) ({ frames := 2, cells := 4, slots := 8, locals := 29 } : Room).cells ({ frames := 2, cells := 4, slots := 8, locals := 29 } : Room).slots) (ef_rmE0 m x b) ?_
  show own_Go p e below _ s₁ (mkF m 0 #[.val (.ref x), .val (.ref b)] [])
  have Sfx := own_safeNull (EL := consts_1) hZ.alike Ex Fv
  refine own_st (fun t_ k_ => XS.aloadN X0.here hx rfl (hb hby d2_0) rfl rfl k_) ?_
  show own_Go p e below _ s₁ (mkF m 1 #[.val (.ref x), .val (.ref b)] [(.ref x)])
  refine own_st (fun t_ k_ => XS.aloadN X0.here hx rfl (hb hby d2_1) rfl rfl k_) ?_
  show own_Go p e below _ s₁ (mkF m 2 #[.val (.ref x), .val (.ref b)] [(.ref b), (.ref x)])
  refine own_st (fun t_ k_ => XS.iconst X0.here hx rfl (hb hby d2_2) k_) ?_
  show own_Go p e below _ s₁ (mkF m 3 #[.val (.ref x), .val (.ref b)] [(.int (0 : Int32)), (.ref b), (.ref x)])
  refine own_st (fun t_ k_ => XS.aloadN X0.here hx rfl (hb hby d2_3) rfl rfl k_) ?_
  show own_Go p e below _ s₁ (mkF m 4 #[.val (.ref x), .val (.ref b)] [(.ref b), (.int (0 : Int32)), (.ref b), (.ref x)])
  obtain ⟨cl1, Ar1, -, S1, N1', -, -⟩ := id Ab
  refine own_st (fun t_ k_ => X0.arraylength hx (by rw [e0]; exact Ar1.1) (State.isArrayOf_alike hZ.alike Ar1.2.1) (g := (mkF m 4 #[.val (.ref x), .val (.ref b)] [(.ref b), (.int (0 : Int32)), (.ref b), (.ref x)])) rfl rfl (hb hby d2_4) t_ k_) ?_
  rw [len_of S1 N1']
  show own_Go p e below _ s₁ (mkF m 5 #[.val (.ref x), .val (.ref b)] [(.int (0 : Int32)), (.int (0 : Int32)), (.ref b), (.ref x)])
  refine own_st (fun t_ k_ => XS.aconstNull X0.here hx rfl (hb hby d2_5) k_) ?_
  show own_Go p e below _ s₁ (mkF m 6 #[.val (.ref x), .val (.ref b)] [.null, (.int (0 : Int32)), (.int (0 : Int32)), (.ref b), (.ref x)])
  refine own_callNS X0 hx (y := (⟨"java/lang/String", "<init>", "([CIILjava/lang/Void;)V"⟩ : MethodName)) rfl hown (mvT hZ (hw _ (List.mem_of_getElem? (i := 17) rfl))) (mvT hZ (hw _ (List.mem_of_getElem? (i := 18) rfl))) (mvT hZ (hw _ (List.mem_of_getElem? (i := 20) rfl))) (by decide) (backOfSH (W := 0) (rmE1 l Z a0 hw [] x b h0 n0 (Nat.le_trans Z0 (Keep.refl h0 [x]).1) g_x Ex Fv Fc) hZ (hw _ (List.mem_of_getElem? (i := 20) rfl)) (hw _ (List.mem_of_getElem? (i := 12) rfl)) (by decide) (by decide) hEL (own_Bk.ch B0)) (a := x) (g := (mkF m 6 #[.val (.ref x), .val (.ref b)] [.null, (.int (0 : Int32)), (.int (0 : Int32)), (.ref b), (.ref x)])) rfl (by rw [hml]; rfl) (argsL := [(.ref b), (.int (0 : Int32)), (.int (0 : Int32)), .null]) (rest := []) (lenOf pd_0 rfl) rfl (by show 2 * 0 + _ ≤ _; exact Nat.le_of_eq rfl) (hb hby d2_6) rfl e0 (by decide) (by decide) hZ B0 ?_
  rintro v2 T2 L2 X2 ⟨rfl, Nq2, Kq2, Eq2, Cq2, t2, kb2, nt2, Vq2, Aq2⟩ CH2 B2 hZ hown
  have hZ : Z.Warmed39 (s.setVm T2.vm).vm := hZ
  have hown : (s.setVm T2.vm).vm.findClass "java/lang/String" = some m.cls := hown
  have N2 := Fr.app N0 Nq2
  have K2 : Keep h0 T2.heap [x] := (Keep.refl h0 [x]).trans Kq2 (allS (Or.inl (List.mem_of_getElem? (i := 0) rfl)) all0)
  show own_Go p e below _ T2 (mkF m 9 #[.val (.ref x), .val (.ref b)] [])
  refine own_ret0S X2 hx hlk hZ hEL rfl hh B2 Bd.returns (hb hby d2_9) ?_ (by decide) (by decide)
  show QE Z x h0 n0 _ T2.heap _
  exact ⟨rfl, N2, K2, Eq2, Cq2, t2, kb2, nt2, Vq2, Aq2⟩
def QM (Z : State) (cs : List Int32) (h0 : Heap) (n0 : Nat) (v : Option Value) (h : Heap) (L : List Loc) : Prop := ∃ (x t : Addr) (kb : ClassId), v = some (.ref x) ∧ Fr n0 L ∧ Keep h0 h [] ∧ h0.size ≤ x ∧ n0 ≤ x ∧ ¬ t = x ∧ Exa Z h x "java/lang/String" ∧ Fld Z h x "java/lang/String" "coder" "B" (.int 0) ∧ Fld Z h x "java/lang/String" "value" "[B" (.ref t) ∧ Arv Z h t kb .byte (Int32.ofNat cs.length) ((cs.map (fun c => c.toInt8.toInt32)).map Value.int) (.int 0) ∧ ∀ c ∈ cs, ¬ c < 0 ∧ ¬ (255 : Int32) < c
def own_str (n : Int32) (l : List Int32) : List Int32 := l.take n.toNatClampNeg
def QL (h0 : Heap) (n0 : Nat) (v : Option Value) (h : Heap) (L : List Loc) : Prop := ∃ r : Int32, v = some (.int r) ∧ Fr n0 L ∧ h = h0 ∧ own_L r
theorem own_Lc {y : Int32} (h : own_L y) : own_L (nar .char (y.toUInt32.toUInt16.toUInt32.toInt32)) := by
  have e : y.toUInt32.toUInt16.toUInt32.toInt32 = y := own_LN h
  rw [e, own_LN h]; exact h
theorem own_Lr (c d y : Int32) (k : Int) (hc : 0 ≤ c.toInt ∧ c.toInt ≤ 100) (hd : d.toInt = k) (hk : 0 < k ∧ k ≤ 26) (h : own_L y) : own_L (c + y % d) := by
  have h1 := (c_irem y d k hd).1 h.1
  have h2 := c_iadd c (y % d)
  have r := rng32 (c + y % d)
  have r1 := Int.emod_nonneg y.toInt (b := k) (by omega)
  have r2 := Int.emod_lt_of_pos y.toInt (b := k) (by omega)
  exact ⟨by omega, by omega⟩
theorem d3_0 : decode method_3_code 0 = .ok (.iload_n 1, 1) := by decide +kernel
theorem d3_1 : decode method_3_code 1 = .ok (.ifCond .eq 12, 3) := by decide +kernel
theorem d3_13 : decode method_3_code 13 = .ok (.iload_n 0, 1) := by decide +kernel
theorem d3_14 : decode method_3_code 14 = .ok (.i2c, 1) := by decide +kernel
theorem d3_15 : decode method_3_code 15 = .ok (.ireturn, 1) := by decide +kernel
theorem d3_4 : decode method_3_code 4 = .ok (.bipush 65, 2) := by decide +kernel
theorem d3_6 : decode method_3_code 6 = .ok (.iload_n 0, 1) := by decide +kernel
theorem d3_7 : decode method_3_code 7 = .ok (.bipush 26, 2) := by decide +kernel
theorem d3_9 : decode method_3_code 9 = .ok (.irem, 1) := by decide +kernel
theorem d3_10 : decode method_3_code 10 = .ok (.iadd, 1) := by decide +kernel
theorem d3_11 : decode method_3_code 11 = .ok (.i2c, 1) := by decide +kernel
theorem d3_12 : decode method_3_code 12 = .ok (.ireturn, 1) := by decide +kernel
theorem pn_1 : plainName "com/example/hebelwerk/hebelwerk/io/FixedFormMatchesPinLaw" = true := by first | (simp [plainName, overriddenIn]; done) | decide +kernel
theorem ef_rmFC (m : MethodId) (x0 : Int32) (x1 : Int32) : entryFrame m #[(.int x0), (.int x1)] 2 = mkF m 0 #[.val (.int x0), .val (.int x1)] [] := by first | (simp [entryFrame, mkF, argsToLocals, Value.category]; done) | rfl
set_option maxRecDepth 65536 in
set_option maxHeartbeats 40000000 in
theorem rmFC (l : Launch) (Z : State) (a0 : Array Value) (hw : ∀ d ∈ tables_1, d.before a0 Z = true) (ws : List Jvm.Cond) (b q : Int32) (h0 : Heap) (n0 : Nat) (Z0 : n0 ≤ h0.size) (hb_ : own_L b) :
    MetFree l (⟨"com/example/hebelwerk/hebelwerk/io/FixedFormMatchesPinLaw", "formChar", "(II)C"⟩ : MethodName) (head1 (Jvm.Cond.code (⟨"com/example/hebelwerk/hebelwerk/io/FixedFormMatchesPinLaw", "formChar", "(II)C"⟩ : MethodName) method_3_code 2 (some .char) :: ws) ({ frames := 0, cells := 0, slots := 0, locals := 0 } : Room)) (fun a_ U_ => a_ = #[(.int b), (.int q)] ∧ Z.Warmed39 U_.vm ∧ U_.heap = h0) (fun _ _ _ _ _ => True) (fun _ U_ o_ U'_ => ∃ v_ L_, o_ = .returned v_ ∧ QL h0 n0 v_ U'_.heap L_ ∧ FrameEnd U_ o_ U'_ L_ ({ frames := 0, cells := 0, slots := 0, locals := 0 } : Room).cells ({ frames := 0, cells := 0, slots := 0, locals := 0 } : Room).slots) := by
  refine MetFree.of_bodySF (plainFor_of_name pn_1) hisR ?_
  intro p e s m args below meth c s₁ Bd hml0 hP hK
  obtain ⟨rfl, hZ, hh⟩ := hP
  have hx := Bd.exec
  have hby := Bd.bytes
  have hml : c.maxLocals = 2 := hml0
  have hown : s.vm.findClass "com/example/hebelwerk/hebelwerk/io/FixedFormMatchesPinLaw" = some m.cls := findClass_of_methodNamed Bd.named
  have hnm := (name_of_methodNamed Bd.named Bd.method).1
  have hlk := BodyLoose.notSynchronized Bd
  have X0 : Stand p l e ({ frames := 0, cells := 0, slots := 0, locals := 0 } : Room) s m #[(.int b), (.int q)] below meth c s₁ [] 0 0 := Stand.of_body Bd
  have e0 : s₁.heap = h0 := by rw [← hh, Bd.state]; rfl
  have N0 := Fr.nil n0
  refine own_entry (P := own_End s (QL h0 n0) ({ frames := 0, cells := 0, slots := 0, locals := 0 } : Room).cells ({ frames := 0, cells := 0, slots := 0, locals := 0 } : Room).slots) (ef_rmFC m b q) ?_
  show own_Go p e below _ s₁ (mkF m 0 #[.val (.int b), .val (.int q)] [])
  refine own_st (fun t_ k_ => XS.iloadN X0.here hx rfl (hb hby d3_0) rfl k_) ?_
  show own_Go p e below _ s₁ (mkF m 1 #[.val (.int b), .val (.int q)] [(.int q)])
  by_cases hq : q = (0 : Int32)
  · refine own_st (fun t_ k_ => XS.ifYes X0.here hx rfl (pc0 := 1) (pc' := 13) rfl (hb hby d3_1) rfl ((if0 _ _).trans (teq hq).1) (by decide) (by decide) k_) ?_
    show own_Go p e below _ s₁ (mkF m 13 #[.val (.int b), .val (.int q)] [])
    refine own_st (fun t_ k_ => XS.iloadN X0.here hx rfl (hb hby d3_13) rfl k_) ?_
    show own_Go p e below _ s₁ (mkF m 14 #[.val (.int b), .val (.int q)] [(.int b)])
    refine own_st (fun t_ k_ => XS.i2c X0.here hx rfl (hb hby d3_14) rfl k_) ?_
    show own_Go p e below _ s₁ (mkF m 15 #[.val (.int b), .val (.int q)] [(.int (b.toUInt32.toUInt16.toUInt32.toInt32))])
    refine own_retN X0 hx hlk (t := .char) Bd.returns (by simp) (hb hby d3_15) ?_ (by decide) (by decide)
    show QL h0 n0 _ s₁.heap _
    rw [e0]
    exact ⟨_, rfl, N0, rfl, own_Lc hb_⟩
  · refine own_st (fun t_ k_ => XS.ifNo X0.here hx rfl (hb hby d3_1) rfl ((if0 _ _).trans (feq hq).1) k_) ?_
    show own_Go p e below _ s₁ (mkF m 4 #[.val (.int b), .val (.int q)] [])
    refine own_st (fun t_ k_ => XS.bipush X0.here hx rfl (hb hby d3_4) k_) ?_
    show own_Go p e below _ s₁ (mkF m 6 #[.val (.int b), .val (.int q)] [(.int (65 : Int32))])
    refine own_st (fun t_ k_ => XS.iloadN X0.here hx rfl (hb hby d3_6) rfl k_) ?_
    show own_Go p e below _ s₁ (mkF m 7 #[.val (.int b), .val (.int q)] [(.int b), (.int (65 : Int32))])
    refine own_st (fun t_ k_ => XS.bipush X0.here hx rfl (hb hby d3_7) k_) ?_
    show own_Go p e below _ s₁ (mkF m 9 #[.val (.int b), .val (.int q)] [(.int (26 : Int32)), (.int b), (.int (65 : Int32))])
    refine own_st (fun t_ k_ => Jvm.RoadKit.iremM (g := (mkF m 9 #[.val (.int b), .val (.int q)] [(.int (26 : Int32)), (.int b), (.int (65 : Int32))])) X0 hx rfl (hb hby d3_9) rfl (by decide) k_) ?_
    show own_Go p e below _ s₁ (mkF m 10 #[.val (.int b), .val (.int q)] [(.int (b % (26 : Int32))), (.int (65 : Int32))])
    refine own_st (fun t_ k_ => XS.iadd X0.here hx rfl (hb hby d3_10) rfl k_) ?_
    show own_Go p e below _ s₁ (mkF m 11 #[.val (.int b), .val (.int q)] [(.int ((65 : Int32) + (b % (26 : Int32))))])
    refine own_st (fun t_ k_ => XS.i2c X0.here hx rfl (hb hby d3_11) rfl k_) ?_
    show own_Go p e below _ s₁ (mkF m 12 #[.val (.int b), .val (.int q)] [(.int (((65 : Int32) + (b % (26 : Int32))).toUInt32.toUInt16.toUInt32.toInt32))])
    refine own_retN X0 hx hlk (t := .char) Bd.returns (by simp) (hb hby d3_12) ?_ (by decide) (by decide)
    show QL h0 n0 _ s₁.heap _
    rw [e0]
    exact ⟨_, rfl, N0, rfl, own_Lc (own_Lr _ _ _ 26 (by decide) rfl (by decide) hb_)⟩
theorem own_Lk {y : Int32} (h : 0 ≤ (nar .char y).toInt ∧ (nar .char y).toInt ≤ 255) : own_L (nar .char y) := h
theorem d4_0 : decode method_4_code 0 = .ok (.iload_n 1, 1) := by decide +kernel
theorem d4_1 : decode method_4_code 1 = .ok (.ifCond .ne 6, 3) := by decide +kernel
theorem d4_7 : decode method_4_code 7 = .ok (.iload_n 1, 1) := by decide +kernel
theorem d4_8 : decode method_4_code 8 = .ok (.iconst 1, 1) := by decide +kernel
theorem d4_9 : decode method_4_code 9 = .ok (.if_icmp .ne 5, 3) := by decide +kernel
theorem d4_14 : decode method_4_code 14 = .ok (.iload_n 1, 1) := by decide +kernel
theorem d4_15 : decode method_4_code 15 = .ok (.iconst 2, 1) := by decide +kernel
theorem d4_16 : decode method_4_code 16 = .ok (.if_icmp .ne 12, 3) := by decide +kernel
theorem d4_28 : decode method_4_code 28 = .ok (.iload_n 0, 1) := by decide +kernel
theorem d4_29 : decode method_4_code 29 = .ok (.iconst 3, 1) := by decide +kernel
theorem d4_30 : decode method_4_code 30 = .ok (.iand, 1) := by decide +kernel
theorem d4_31 : decode method_4_code 31 = .ok (.istore_n 3, 1) := by decide +kernel
theorem d4_32 : decode method_4_code 32 = .ok (.iload_n 3, 1) := by decide +kernel
theorem d4_33 : decode method_4_code 33 = .ok (.ifCond .ne 6, 3) := by decide +kernel
theorem d4_39 : decode method_4_code 39 = .ok (.iload_n 3, 1) := by decide +kernel
theorem d4_40 : decode method_4_code 40 = .ok (.iconst 1, 1) := by decide +kernel
theorem d4_41 : decode method_4_code 41 = .ok (.if_icmp .ne 6, 3) := by decide +kernel
theorem d4_47 : decode method_4_code 47 = .ok (.iload_n 3, 1) := by decide +kernel
theorem d4_48 : decode method_4_code 48 = .ok (.iconst 2, 1) := by decide +kernel
theorem d4_49 : decode method_4_code 49 = .ok (.if_icmp .ne 6, 3) := by decide +kernel
theorem d4_55 : decode method_4_code 55 = .ok (.bipush 91, 2) := by decide +kernel
theorem d4_57 : decode method_4_code 57 = .ok (.ireturn, 1) := by decide +kernel
theorem d4_52 : decode method_4_code 52 = .ok (.bipush 64, 2) := by decide +kernel
theorem d4_54 : decode method_4_code 54 = .ok (.ireturn, 1) := by decide +kernel
theorem d4_44 : decode method_4_code 44 = .ok (.bipush 58, 2) := by decide +kernel
theorem d4_46 : decode method_4_code 46 = .ok (.ireturn, 1) := by decide +kernel
theorem d4_36 : decode method_4_code 36 = .ok (.bipush 47, 2) := by decide +kernel
theorem d4_38 : decode method_4_code 38 = .ok (.ireturn, 1) := by decide +kernel
theorem d4_19 : decode method_4_code 19 = .ok (.bipush 48, 2) := by decide +kernel
theorem d4_21 : decode method_4_code 21 = .ok (.iload_n 0, 1) := by decide +kernel
theorem d4_22 : decode method_4_code 22 = .ok (.bipush 10, 2) := by decide +kernel
theorem d4_24 : decode method_4_code 24 = .ok (.irem, 1) := by decide +kernel
theorem d4_25 : decode method_4_code 25 = .ok (.iadd, 1) := by decide +kernel
theorem d4_26 : decode method_4_code 26 = .ok (.i2c, 1) := by decide +kernel
theorem d4_27 : decode method_4_code 27 = .ok (.ireturn, 1) := by decide +kernel
theorem d4_12 : decode method_4_code 12 = .ok (.iload_n 2, 1) := by decide +kernel
theorem d4_13 : decode method_4_code 13 = .ok (.ireturn, 1) := by decide +kernel
theorem d4_4 : decode method_4_code 4 = .ok (.iload_n 0, 1) := by decide +kernel
theorem d4_5 : decode method_4_code 5 = .ok (.i2c, 1) := by decide +kernel
theorem d4_6 : decode method_4_code 6 = .ok (.ireturn, 1) := by decide +kernel
theorem ef_rmTC (m : MethodId) (x0 : Int32) (x1 : Int32) (x2 : Int32) : entryFrame m #[(.int x0), (.int x1), (.int x2)] 4 = mkF m 0 #[.val (.int x0), .val (.int x1), .val (.int x2), .unset] [] := by first | (simp [entryFrame, mkF, argsToLocals, Value.category]; done) | rfl
set_option maxRecDepth 65536 in
set_option maxHeartbeats 40000000 in
theorem rmTC (l : Launch) (Z : State) (a0 : Array Value) (hw : ∀ d ∈ tables_1, d.before a0 Z = true) (ws : List Jvm.Cond) (b q g : Int32) (h0 : Heap) (n0 : Nat) (Z0 : n0 ≤ h0.size) (hb_ : own_L b) (hg_ : own_L g) :
    MetFree l (⟨"com/example/hebelwerk/hebelwerk/io/FixedFormMatchesPinLaw", "textChar", "(IIC)C"⟩ : MethodName) (head1 (Jvm.Cond.code (⟨"com/example/hebelwerk/hebelwerk/io/FixedFormMatchesPinLaw", "textChar", "(IIC)C"⟩ : MethodName) method_4_code 4 (some .char) :: ws) ({ frames := 0, cells := 0, slots := 0, locals := 0 } : Room)) (fun a_ U_ => a_ = #[(.int b), (.int q), (.int g)] ∧ Z.Warmed39 U_.vm ∧ U_.heap = h0) (fun _ _ _ _ _ => True) (fun _ U_ o_ U'_ => ∃ v_ L_, o_ = .returned v_ ∧ QL h0 n0 v_ U'_.heap L_ ∧ FrameEnd U_ o_ U'_ L_ ({ frames := 0, cells := 0, slots := 0, locals := 0 } : Room).cells ({ frames := 0, cells := 0, slots := 0, locals := 0 } : Room).slots) := by
  refine MetFree.of_bodySF (plainFor_of_name pn_1) hisR ?_
  intro p e s m args below meth c s₁ Bd hml0 hP hK
  obtain ⟨rfl, hZ, hh⟩ := hP
  have hx := Bd.exec
  have hby := Bd.bytes
  have hml : c.maxLocals = 4 := hml0
  have hown : s.vm.findClass "com/example/hebelwerk/hebelwerk/io/FixedFormMatchesPinLaw" = some m.cls := findClass_of_methodNamed Bd.named
  have hnm := (name_of_methodNamed Bd.named Bd.method).1
  have hlk := BodyLoose.notSynchronized Bd
  have X0 : Stand p l e ({ frames := 0, cells := 0, slots := 0, locals := 0 } : Room) s m #[(.int b), (.int q), (.int g)] below meth c s₁ [] 0 0 := Stand.of_body Bd
  have e0 : s₁.heap = h0 := by rw [← hh, Bd.state]; rfl
  have N0 := Fr.nil n0
  refine own_entry (P := own_End s (QL h0 n0) ({ frames := 0, cells := 0, slots := 0, locals := 0 } : Room).cells ({ frames := 0, cells := 0, slots := 0, locals := 0 } : Room).slots) (ef_rmTC m b q g) ?_
  show own_Go p e below _ s₁ (mkF m 0 #[.val (.int b), .val (.int q), .val (.int g), .unset] [])
  refine own_st (fun t_ k_ => XS.iloadN X0.here hx rfl (hb hby d4_0) rfl k_) ?_
  show own_Go p e below _ s₁ (mkF m 1 #[.val (.int b), .val (.int q), .val (.int g), .unset] [(.int q)])
  by_cases hc1_1 : q = (0 : Int32)
  · refine own_st (fun t_ k_ => XS.ifNo X0.here hx rfl (hb hby d4_1) rfl ((if0 _ _).trans (teq hc1_1).2) k_) ?_
    show own_Go p e below _ s₁ (mkF m 4 #[.val (.int b), .val (.int q), .val (.int g), .unset] [])
    refine own_st (fun t_ k_ => XS.iloadN X0.here hx rfl (hb hby d4_4) rfl k_) ?_
    show own_Go p e below _ s₁ (mkF m 5 #[.val (.int b), .val (.int q), .val (.int g), .unset] [(.int b)])
    refine own_st (fun t_ k_ => XS.i2c X0.here hx rfl (hb hby d4_5) rfl k_) ?_
    show own_Go p e below _ s₁ (mkF m 6 #[.val (.int b), .val (.int q), .val (.int g), .unset] [(.int (b.toUInt32.toUInt16.toUInt32.toInt32))])
    refine own_retN X0 hx hlk (t := .char) Bd.returns (by simp) (hb hby d4_6) ?_ (by decide) (by decide)
    show QL h0 n0 _ s₁.heap _
    rw [e0]
    exact ⟨_, rfl, N0, rfl, own_Lc hb_⟩
  · refine own_st (fun t_ k_ => XS.ifYes X0.here hx rfl (pc0 := 1) (pc' := 7) rfl (hb hby d4_1) rfl ((if0 _ _).trans (feq hc1_1).2) (by decide) (by decide) k_) ?_
    show own_Go p e below _ s₁ (mkF m 7 #[.val (.int b), .val (.int q), .val (.int g), .unset] [])
    refine own_st (fun t_ k_ => XS.iloadN X0.here hx rfl (hb hby d4_7) rfl k_) ?_
    show own_Go p e below _ s₁ (mkF m 8 #[.val (.int b), .val (.int q), .val (.int g), .unset] [(.int q)])
    refine own_st (fun t_ k_ => XS.iconst X0.here hx rfl (hb hby d4_8) k_) ?_
    show own_Go p e below _ s₁ (mkF m 9 #[.val (.int b), .val (.int q), .val (.int g), .unset] [(.int (1 : Int32)), (.int q)])
    by_cases hc9_2 : q = (1 : Int32)
    · refine own_st (fun t_ k_ => XS.icmpNo X0.here hx rfl (hb hby d4_9) rfl (teq hc9_2).2 k_) ?_
      show own_Go p e below _ s₁ (mkF m 12 #[.val (.int b), .val (.int q), .val (.int g), .unset] [])
      refine own_st (fun t_ k_ => XS.iloadN X0.here hx rfl (hb hby d4_12) rfl k_) ?_
      show own_Go p e below _ s₁ (mkF m 13 #[.val (.int b), .val (.int q), .val (.int g), .unset] [(.int g)])
      refine own_retN X0 hx hlk (t := .char) Bd.returns (by simp) (hb hby d4_13) ?_ (by decide) (by decide)
      show QL h0 n0 _ s₁.heap _
      rw [e0]
      exact ⟨_, rfl, N0, rfl, (by rw [own_LN hg_]; exact hg_)⟩
    · refine own_st (fun t_ k_ => XS.icmpYes X0.here hx rfl (pc0 := 9) (pc' := 14) rfl (hb hby d4_9) rfl (feq hc9_2).2 (by decide) (by decide) k_) ?_
      show own_Go p e below _ s₁ (mkF m 14 #[.val (.int b), .val (.int q), .val (.int g), .unset] [])
      refine own_st (fun t_ k_ => XS.iloadN X0.here hx rfl (hb hby d4_14) rfl k_) ?_
      show own_Go p e below _ s₁ (mkF m 15 #[.val (.int b), .val (.int q), .val (.int g), .unset] [(.int q)])
      refine own_st (fun t_ k_ => XS.iconst X0.here hx rfl (hb hby d4_15) k_) ?_
      show own_Go p e below _ s₁ (mkF m 16 #[.val (.int b), .val (.int q), .val (.int g), .unset] [(.int (2 : Int32)), (.int q)])
      by_cases hc16_3 : q = (2 : Int32)
      · refine own_st (fun t_ k_ => XS.icmpNo X0.here hx rfl (hb hby d4_16) rfl (teq hc16_3).2 k_) ?_
        show own_Go p e below _ s₁ (mkF m 19 #[.val (.int b), .val (.int q), .val (.int g), .unset] [])
        refine own_st (fun t_ k_ => XS.bipush X0.here hx rfl (hb hby d4_19) k_) ?_
        show own_Go p e below _ s₁ (mkF m 21 #[.val (.int b), .val (.int q), .val (.int g), .unset] [(.int (48 : Int32))])
        refine own_st (fun t_ k_ => XS.iloadN X0.here hx rfl (hb hby d4_21) rfl k_) ?_
        show own_Go p e below _ s₁ (mkF m 22 #[.val (.int b), .val (.int q), .val (.int g), .unset] [(.int b), (.int (48 : Int32))])
        refine own_st (fun t_ k_ => XS.bipush X0.here hx rfl (hb hby d4_22) k_) ?_
        show own_Go p e below _ s₁ (mkF m 24 #[.val (.int b), .val (.int q), .val (.int g), .unset] [(.int (10 : Int32)), (.int b), (.int (48 : Int32))])
        refine own_st (fun t_ k_ => Jvm.RoadKit.iremM (g := (mkF m 24 #[.val (.int b), .val (.int q), .val (.int g), .unset] [(.int (10 : Int32)), (.int b), (.int (48 : Int32))])) X0 hx rfl (hb hby d4_24) rfl (by decide) k_) ?_
        show own_Go p e below _ s₁ (mkF m 25 #[.val (.int b), .val (.int q), .val (.int g), .unset] [(.int (b % (10 : Int32))), (.int (48 : Int32))])
        refine own_st (fun t_ k_ => XS.iadd X0.here hx rfl (hb hby d4_25) rfl k_) ?_
        show own_Go p e below _ s₁ (mkF m 26 #[.val (.int b), .val (.int q), .val (.int g), .unset] [(.int ((48 : Int32) + (b % (10 : Int32))))])
        refine own_st (fun t_ k_ => XS.i2c X0.here hx rfl (hb hby d4_26) rfl k_) ?_
        show own_Go p e below _ s₁ (mkF m 27 #[.val (.int b), .val (.int q), .val (.int g), .unset] [(.int (((48 : Int32) + (b % (10 : Int32))).toUInt32.toUInt16.toUInt32.toInt32))])
        refine own_retN X0 hx hlk (t := .char) Bd.returns (by simp) (hb hby d4_27) ?_ (by decide) (by decide)
        show QL h0 n0 _ s₁.heap _
        rw [e0]
        exact ⟨_, rfl, N0, rfl, own_Lc (own_Lr _ _ _ 10 (by decide) rfl (by decide) hb_)⟩
      · refine own_st (fun t_ k_ => XS.icmpYes X0.here hx rfl (pc0 := 16) (pc' := 28) rfl (hb hby d4_16) rfl (feq hc16_3).2 (by decide) (by decide) k_) ?_
        show own_Go p e below _ s₁ (mkF m 28 #[.val (.int b), .val (.int q), .val (.int g), .unset] [])
        refine own_st (fun t_ k_ => XS.iloadN X0.here hx rfl (hb hby d4_28) rfl k_) ?_
        show own_Go p e below _ s₁ (mkF m 29 #[.val (.int b), .val (.int q), .val (.int g), .unset] [(.int b)])
        refine own_st (fun t_ k_ => XS.iconst X0.here hx rfl (hb hby d4_29) k_) ?_
        show own_Go p e below _ s₁ (mkF m 30 #[.val (.int b), .val (.int q), .val (.int g), .unset] [(.int (3 : Int32)), (.int b)])
        refine own_st (fun t_ k_ => XS.iand X0.here hx rfl (hb hby d4_30) rfl k_) ?_
        show own_Go p e below _ s₁ (mkF m 31 #[.val (.int b), .val (.int q), .val (.int g), .unset] [(.int (b &&& (3 : Int32)))])
        refine own_st (fun t_ k_ => XS.istoreN X0.here hx rfl (hb hby d4_31) rfl (l' := #[.val (.int b), .val (.int q), .val (.int g), .val (.int (b &&& (3 : Int32)))]) rfl k_) ?_
        show own_Go p e below _ s₁ (mkF m 32 #[.val (.int b), .val (.int q), .val (.int g), .val (.int (b &&& (3 : Int32)))] [])
        refine own_st (fun t_ k_ => XS.iloadN X0.here hx rfl (hb hby d4_32) rfl k_) ?_
        show own_Go p e below _ s₁ (mkF m 33 #[.val (.int b), .val (.int q), .val (.int g), .val (.int (b &&& (3 : Int32)))] [(.int (b &&& (3 : Int32)))])
        by_cases hc33_4 : (b &&& (3 : Int32)) = (0 : Int32)
        · refine own_st (fun t_ k_ => XS.ifNo X0.here hx rfl (hb hby d4_33) rfl ((if0 _ _).trans (teq hc33_4).2) k_) ?_
          show own_Go p e below _ s₁ (mkF m 36 #[.val (.int b), .val (.int q), .val (.int g), .val (.int (b &&& (3 : Int32)))] [])
          refine own_st (fun t_ k_ => XS.bipush X0.here hx rfl (hb hby d4_36) k_) ?_
          show own_Go p e below _ s₁ (mkF m 38 #[.val (.int b), .val (.int q), .val (.int g), .val (.int (b &&& (3 : Int32)))] [(.int (47 : Int32))])
          refine own_retN X0 hx hlk (t := .char) Bd.returns (by simp) (hb hby d4_38) ?_ (by decide) (by decide)
          show QL h0 n0 _ s₁.heap _
          rw [e0]
          exact ⟨_, rfl, N0, rfl, own_Lk (by decide)⟩
        · refine own_st (fun t_ k_ => XS.ifYes X0.here hx rfl (pc0 := 33) (pc' := 39) rfl (hb hby d4_33) rfl ((if0 _ _).trans (feq hc33_4).2) (by decide) (by decide) k_) ?_
          show own_Go p e below _ s₁ (mkF m 39 #[.val (.int b), .val (.int q), .val (.int g), .val (.int (b &&& (3 : Int32)))] [])
          refine own_st (fun t_ k_ => XS.iloadN X0.here hx rfl (hb hby d4_39) rfl k_) ?_
          show own_Go p e below _ s₁ (mkF m 40 #[.val (.int b), .val (.int q), .val (.int g), .val (.int (b &&& (3 : Int32)))] [(.int (b &&& (3 : Int32)))])
          refine own_st (fun t_ k_ => XS.iconst X0.here hx rfl (hb hby d4_40) k_) ?_
          show own_Go p e below _ s₁ (mkF m 41 #[.val (.int b), .val (.int q), .val (.int g), .val (.int (b &&& (3 : Int32)))] [(.int (1 : Int32)), (.int (b &&& (3 : Int32)))])
          by_cases hc41_5 : (b &&& (3 : Int32)) = (1 : Int32)
          · refine own_st (fun t_ k_ => XS.icmpNo X0.here hx rfl (hb hby d4_41) rfl (teq hc41_5).2 k_) ?_
            show own_Go p e below _ s₁ (mkF m 44 #[.val (.int b), .val (.int q), .val (.int g), .val (.int (b &&& (3 : Int32)))] [])
            refine own_st (fun t_ k_ => XS.bipush X0.here hx rfl (hb hby d4_44) k_) ?_
            show own_Go p e below _ s₁ (mkF m 46 #[.val (.int b), .val (.int q), .val (.int g), .val (.int (b &&& (3 : Int32)))] [(.int (58 : Int32))])
            refine own_retN X0 hx hlk (t := .char) Bd.returns (by simp) (hb hby d4_46) ?_ (by decide) (by decide)
            show QL h0 n0 _ s₁.heap _
            rw [e0]
            exact ⟨_, rfl, N0, rfl, own_Lk (by decide)⟩
          · refine own_st (fun t_ k_ => XS.icmpYes X0.here hx rfl (pc0 := 41) (pc' := 47) rfl (hb hby d4_41) rfl (feq hc41_5).2 (by decide) (by decide) k_) ?_
            show own_Go p e below _ s₁ (mkF m 47 #[.val (.int b), .val (.int q), .val (.int g), .val (.int (b &&& (3 : Int32)))] [])
            refine own_st (fun t_ k_ => XS.iloadN X0.here hx rfl (hb hby d4_47) rfl k_) ?_
            show own_Go p e below _ s₁ (mkF m 48 #[.val (.int b), .val (.int q), .val (.int g), .val (.int (b &&& (3 : Int32)))] [(.int (b &&& (3 : Int32)))])
            refine own_st (fun t_ k_ => XS.iconst X0.here hx rfl (hb hby d4_48) k_) ?_
            show own_Go p e below _ s₁ (mkF m 49 #[.val (.int b), .val (.int q), .val (.int g), .val (.int (b &&& (3 : Int32)))] [(.int (2 : Int32)), (.int (b &&& (3 : Int32)))])
            by_cases hc49_6 : (b &&& (3 : Int32)) = (2 : Int32)
            · refine own_st (fun t_ k_ => XS.icmpNo X0.here hx rfl (hb hby d4_49) rfl (teq hc49_6).2 k_) ?_
              show own_Go p e below _ s₁ (mkF m 52 #[.val (.int b), .val (.int q), .val (.int g), .val (.int (b &&& (3 : Int32)))] [])
              refine own_st (fun t_ k_ => XS.bipush X0.here hx rfl (hb hby d4_52) k_) ?_
              show own_Go p e below _ s₁ (mkF m 54 #[.val (.int b), .val (.int q), .val (.int g), .val (.int (b &&& (3 : Int32)))] [(.int (64 : Int32))])
              refine own_retN X0 hx hlk (t := .char) Bd.returns (by simp) (hb hby d4_54) ?_ (by decide) (by decide)
              show QL h0 n0 _ s₁.heap _
              rw [e0]
              exact ⟨_, rfl, N0, rfl, own_Lk (by decide)⟩
            · refine own_st (fun t_ k_ => XS.icmpYes X0.here hx rfl (pc0 := 49) (pc' := 55) rfl (hb hby d4_49) rfl (feq hc49_6).2 (by decide) (by decide) k_) ?_
              show own_Go p e below _ s₁ (mkF m 55 #[.val (.int b), .val (.int q), .val (.int g), .val (.int (b &&& (3 : Int32)))] [])
              refine own_st (fun t_ k_ => XS.bipush X0.here hx rfl (hb hby d4_55) k_) ?_
              show own_Go p e below _ s₁ (mkF m 57 #[.val (.int b), .val (.int q), .val (.int g), .val (.int (b &&& (3 : Int32)))] [(.int (91 : Int32))])
              refine own_retN X0 hx hlk (t := .char) Bd.returns (by simp) (hb hby d4_57) ?_ (by decide) (by decide)
              show QL h0 n0 _ s₁.heap _
              rw [e0]
              exact ⟨_, rfl, N0, rfl, own_Lk (by decide)⟩
def own_N4 (n : Int32) : Prop := n = (0 : Int32) ∨ n = (1 : Int32) ∨ n = (2 : Int32) ∨ n = (3 : Int32)
theorem d5_0 : decode method_5_code 0 = .ok (.iload_n 0, 1) := by decide +kernel
theorem d5_1 : decode method_5_code 1 = .ok (.ifCond .ne 14, 3) := by decide +kernel
theorem d5_4 : decode method_5_code 4 = .ok (.new 34, 3) := by decide +kernel
theorem d5_7 : decode method_5_code 7 = .ok (.dup, 1) := by decide +kernel
theorem d5_8 : decode method_5_code 8 = .ok (.iconst 0, 1) := by decide +kernel
theorem d5_9 : decode method_5_code 9 = .ok (.newarray .char, 2) := by decide +kernel
theorem d5_11 : decode method_5_code 11 = .ok (.invokespecial 36, 3) := by decide +kernel
theorem pd_1 : parseMethodDescriptor "([C)V" = some ⟨[(.array .char)], none⟩ := by decide +kernel
theorem d5_14 : decode method_5_code 14 = .ok (.areturn, 1) := by decide +kernel
theorem d5_15 : decode method_5_code 15 = .ok (.iload_n 0, 1) := by decide +kernel
theorem d5_16 : decode method_5_code 16 = .ok (.iconst 1, 1) := by decide +kernel
theorem d5_17 : decode method_5_code 17 = .ok (.if_icmp .ne 18, 3) := by decide +kernel
theorem d5_20 : decode method_5_code 20 = .ok (.new 34, 3) := by decide +kernel
theorem d5_23 : decode method_5_code 23 = .ok (.dup, 1) := by decide +kernel
theorem d5_24 : decode method_5_code 24 = .ok (.iconst 1, 1) := by decide +kernel
theorem d5_25 : decode method_5_code 25 = .ok (.newarray .char, 2) := by decide +kernel
theorem d5_27 : decode method_5_code 27 = .ok (.dup, 1) := by decide +kernel
theorem d5_28 : decode method_5_code 28 = .ok (.iconst 0, 1) := by decide +kernel
theorem d5_29 : decode method_5_code 29 = .ok (.iload_n 1, 1) := by decide +kernel
theorem d5_30 : decode method_5_code 30 = .ok (.castore, 1) := by decide +kernel
theorem d5_31 : decode method_5_code 31 = .ok (.invokespecial 36, 3) := by decide +kernel
theorem d5_34 : decode method_5_code 34 = .ok (.areturn, 1) := by decide +kernel
theorem d5_35 : decode method_5_code 35 = .ok (.iload_n 0, 1) := by decide +kernel
theorem d5_36 : decode method_5_code 36 = .ok (.iconst 2, 1) := by decide +kernel
theorem d5_37 : decode method_5_code 37 = .ok (.if_icmp .ne 22, 3) := by decide +kernel
theorem d5_40 : decode method_5_code 40 = .ok (.new 34, 3) := by decide +kernel
theorem d5_43 : decode method_5_code 43 = .ok (.dup, 1) := by decide +kernel
theorem d5_44 : decode method_5_code 44 = .ok (.iconst 2, 1) := by decide +kernel
theorem d5_45 : decode method_5_code 45 = .ok (.newarray .char, 2) := by decide +kernel
theorem d5_47 : decode method_5_code 47 = .ok (.dup, 1) := by decide +kernel
theorem d5_48 : decode method_5_code 48 = .ok (.iconst 0, 1) := by decide +kernel
theorem d5_49 : decode method_5_code 49 = .ok (.iload_n 1, 1) := by decide +kernel
theorem d5_50 : decode method_5_code 50 = .ok (.castore, 1) := by decide +kernel
theorem d5_51 : decode method_5_code 51 = .ok (.dup, 1) := by decide +kernel
theorem d5_52 : decode method_5_code 52 = .ok (.iconst 1, 1) := by decide +kernel
theorem d5_53 : decode method_5_code 53 = .ok (.iload_n 2, 1) := by decide +kernel
theorem d5_54 : decode method_5_code 54 = .ok (.castore, 1) := by decide +kernel
theorem d5_55 : decode method_5_code 55 = .ok (.invokespecial 36, 3) := by decide +kernel
theorem d5_58 : decode method_5_code 58 = .ok (.areturn, 1) := by decide +kernel
theorem d5_59 : decode method_5_code 59 = .ok (.new 34, 3) := by decide +kernel
theorem d5_62 : decode method_5_code 62 = .ok (.dup, 1) := by decide +kernel
theorem d5_63 : decode method_5_code 63 = .ok (.iconst 3, 1) := by decide +kernel
theorem d5_64 : decode method_5_code 64 = .ok (.newarray .char, 2) := by decide +kernel
theorem d5_66 : decode method_5_code 66 = .ok (.dup, 1) := by decide +kernel
theorem d5_67 : decode method_5_code 67 = .ok (.iconst 0, 1) := by decide +kernel
theorem d5_68 : decode method_5_code 68 = .ok (.iload_n 1, 1) := by decide +kernel
theorem d5_69 : decode method_5_code 69 = .ok (.castore, 1) := by decide +kernel
theorem d5_70 : decode method_5_code 70 = .ok (.dup, 1) := by decide +kernel
theorem d5_71 : decode method_5_code 71 = .ok (.iconst 1, 1) := by decide +kernel
theorem d5_72 : decode method_5_code 72 = .ok (.iload_n 2, 1) := by decide +kernel
theorem d5_73 : decode method_5_code 73 = .ok (.castore, 1) := by decide +kernel
theorem d5_74 : decode method_5_code 74 = .ok (.dup, 1) := by decide +kernel
theorem d5_75 : decode method_5_code 75 = .ok (.iconst 2, 1) := by decide +kernel
theorem d5_76 : decode method_5_code 76 = .ok (.iload_n 3, 1) := by decide +kernel
theorem d5_77 : decode method_5_code 77 = .ok (.castore, 1) := by decide +kernel
theorem d5_78 : decode method_5_code 78 = .ok (.invokespecial 36, 3) := by decide +kernel
theorem d5_81 : decode method_5_code 81 = .ok (.areturn, 1) := by decide +kernel
theorem ef_rmMK (m : MethodId) (x0 : Int32) (x1 : Int32) (x2 : Int32) (x3 : Int32) : entryFrame m #[(.int x0), (.int x1), (.int x2), (.int x3)] 4 = mkF m 0 #[.val (.int x0), .val (.int x1), .val (.int x2), .val (.int x3)] [] := by first | (simp [entryFrame, mkF, argsToLocals, Value.category]; done) | rfl
set_option maxRecDepth 65536 in
set_option maxHeartbeats 40000000 in
theorem rmMK (l : Launch) (Z : State) (a0 : Array Value) (hw : ∀ d ∈ tables_1, d.before a0 Z = true) (ws : List Jvm.Cond) (n : Int32) (x0 x1 x2 : Int32) (G : Int32) (h0 : Heap) (n0 : Nat) (Z0 : n0 ≤ h0.size) (SC : Sta Z Z.heap "java/lang/String" "COMPACT_STRINGS" "Z" (.int G)) (hCS : ¬ G = 0) (O0 : Old Z n0 h0) (hn : own_N4 n) (hL0 : own_L x0) (hL1 : own_L x1) (hL2 : own_L x2) :
    MetFree l (⟨"com/example/hebelwerk/hebelwerk/io/FixedFormMatchesPinLaw", "make", "(ICCC)Ljava/lang/String;"⟩ : MethodName) (head1 (Jvm.Cond.code (⟨"com/example/hebelwerk/hebelwerk/io/FixedFormMatchesPinLaw", "make", "(ICCC)Ljava/lang/String;"⟩ : MethodName) method_5_code 4 (some (.object "java/lang/String")) :: ws) ({ frames := 4, cells := 6, slots := 12, locals := 66 } : Room)) (fun a_ U_ => a_ = #[(.int n), (.int x0), (.int x1), (.int x2)] ∧ Z.Warmed39 U_.vm ∧ U_.heap = h0 ∧ CHv Z consts_1 U_.vm h0) (fun _ _ _ _ _ => True) (fun _ U_ o_ U'_ => ∃ v_ L_, o_ = .returned v_ ∧ QM Z (own_str n [x0, x1, x2]) h0 n0 v_ U'_.heap L_ ∧ CHr Z consts_1 U_.vm U_.heap U'_.vm U'_.heap ∧ ReturnedEndW U_ o_ U'_ L_ ({ frames := 4, cells := 6, slots := 12, locals := 66 } : Room).cells ({ frames := 4, cells := 6, slots := 12, locals := 66 } : Room).slots) := by
  refine MetFree.of_bodySF (plainFor_of_name pn_1) hisR ?_
  intro p e s m args below meth c s₁ Bd hml0 hP hK
  obtain ⟨rfl, hZ, hh, hC0⟩ := hP
  have hx := Bd.exec
  have hby := Bd.bytes
  have hml : c.maxLocals = 4 := hml0
  have hown : s.vm.findClass "com/example/hebelwerk/hebelwerk/io/FixedFormMatchesPinLaw" = some m.cls := findClass_of_methodNamed Bd.named
  have hnm := (name_of_methodNamed Bd.named Bd.method).1
  have hlk := BodyLoose.notSynchronized Bd
  have X0 : Stand p l e ({ frames := 4, cells := 6, slots := 12, locals := 66 } : Room) (s.setVm s.vm) m #[(.int n), (.int x0), (.int x1), (.int x2)] below meth c s₁ [] 0 0 := Stand.of_body Bd
  have e0 : s₁.heap = h0 := by rw [← hh, Bd.state]; rfl
  have N0 := Fr.nil n0
  have hEL := own_EL hw
  have B0 : own_Bk Z consts_1 s h0 s.vm h0 := own_Bk.start hC0
  refine own_entry (P := own_EndS Z consts_1 s (QM Z (own_str n [x0, x1, x2]) h0 n0) ({ frames := 4, cells := 6, slots := 12, locals := 66 } : Room).cells ({ frames := 4, cells := 6, slots := 12, locals := 66 } : Room).slots) (ef_rmMK m n x0 x1 x2) ?_
  show own_Go p e below _ s₁ (mkF m 0 #[.val (.int n), .val (.int x0), .val (.int x1), .val (.int x2)] [])
  rcases (hn : n = (0 : Int32) ∨ n = (1 : Int32) ∨ n = (2 : Int32) ∨ n = (3 : Int32)) with rfl | rfl | rfl | rfl
  · show own_Go p e below _ s₁ (mkF m 0 #[.val (.int (0 : Int32)), .val (.int x0), .val (.int x1), .val (.int x2)] [])
    refine own_st (fun t_ k_ => XS.iloadN X0.here hx rfl (hb hby d5_0) rfl k_) ?_
    show own_Go p e below _ s₁ (mkF m 1 #[.val (.int (0 : Int32)), .val (.int x0), .val (.int x1), .val (.int x2)] [(.int (0 : Int32))])
    refine own_st (fun t_ k_ => XS.ifNo X0.here hx rfl (hb hby d5_1) rfl (by decide) k_) ?_
    show own_Go p e below _ s₁ (mkF m 4 #[.val (.int (0 : Int32)), .val (.int x0), .val (.int x1), .val (.int x2)] [])
    obtain ⟨T1, h1, X1, e1, E1, A1, D1, cel1, st1⟩ := newO X0 hx hZ hown (hw _ (List.mem_of_getElem? (i := 10) rfl)) (hw _ (List.mem_of_getElem? (i := 11) rfl)) (hw _ (List.mem_of_getElem? (i := 12) rfl)) e0 (g := (mkF m 4 #[.val (.int (0 : Int32)), .val (.int x0), .val (.int x1), .val (.int x2)] [])) rfl (hb hby d5_4) (by decide) (by decide)
    obtain ⟨nb1, g1⟩ : ∃ z, z = h0.size := ⟨_, rfl⟩
    rw [← g1] at A1 D1 cel1 st1
    refine own_st st1 ?_
    have g_nb1 : n0 ≤ nb1 := Nat.le_trans (Nat.le_trans Z0 (Keep.refl h0 []).1) (Nat.le_of_eq g1.symm)
    have K1 : Keep h0 h1 [] := (Keep.refl h0 []).ext E1
    have sz_nb1 : h0.size ≤ nb1 := Nat.le_trans (Keep.refl h0 []).1 (Nat.le_of_eq g1.symm)
    have B1 := own_Bk.ext E1 B0
    have Sf1 := Safe.ext E1 (own_Bk.ch B0) (Safe.new (Nat.le_of_eq g1.symm))
    have F1_value : Fld Z h1 nb1 "java/lang/String" "value" "[B" .null := D1 (Or.inr (hw _ (List.mem_of_getElem? (i := 26) rfl))) (ty := (.array .byte)) (by decide)
    have F1_coder : Fld Z h1 nb1 "java/lang/String" "coder" "B" (.int (0 : Int32)) := D1 (Or.inr (hw _ (List.mem_of_getElem? (i := 27) rfl))) (ty := .byte) (by decide)
    show own_Go p e below _ T1 (mkF m 7 #[.val (.int (0 : Int32)), .val (.int x0), .val (.int x1), .val (.int x2)] [(.ref nb1)])
    refine own_st (fun t_ k_ => XS.dup X1.here hx rfl (hb hby d5_7) rfl rfl k_) ?_
    show own_Go p e below _ T1 (mkF m 8 #[.val (.int (0 : Int32)), .val (.int x0), .val (.int x1), .val (.int x2)] [(.ref nb1), (.ref nb1)])
    refine own_st (fun t_ k_ => XS.iconst X1.here hx rfl (hb hby d5_8) k_) ?_
    show own_Go p e below _ T1 (mkF m 9 #[.val (.int (0 : Int32)), .val (.int x0), .val (.int x1), .val (.int x2)] [(.int (0 : Int32)), (.ref nb1), (.ref nb1)])
    obtain ⟨T2, h2, k2, X2, e2, E2, A2, st2⟩ := newP X1 hx hZ (hw _ (List.mem_of_getElem? (i := 13) rfl)) e1 (g := (mkF m 9 #[.val (.int (0 : Int32)), .val (.int x0), .val (.int x1), .val (.int x2)] [(.int (0 : Int32)), (.ref nb1), (.ref nb1)])) rfl (hb hby d5_9) rfl (by decide) (cap := 0) (by decide) (by decide) (by decide) (by decide)
    obtain ⟨nb2, g2⟩ : ∃ z, z = h1.size := ⟨_, rfl⟩
    rw [← g2] at A2 st2
    refine own_st st2 ?_
    have g_nb2 : n0 ≤ nb2 := Nat.le_trans (Nat.le_trans Z0 K1.1) (Nat.le_of_eq g2.symm)
    have K2 : Keep h0 h2 [] := K1.ext E2
    have sz_nb2 : h0.size ≤ nb2 := Nat.le_trans K1.1 (Nat.le_of_eq g2.symm)
    have B2 := own_Bk.ext E2 B1
    have Sf2 := Safe.ext E2 (own_Bk.ch B1) (Safe.new (Nat.le_of_eq g2.symm))
    have V2 : Arv Z h2 nb2 k2 .char (0 : Int32) [] (.int (0 : Int32)) := (Arv.new A2 (by decide)).pad (pad_rep [] (.int (0 : Int32)) 0)
    show own_Go p e below _ T2 (mkF m 11 #[.val (.int (0 : Int32)), .val (.int x0), .val (.int x1), .val (.int x2)] [(.ref nb2), (.ref nb1), (.ref nb1)])
    have f4 := (Exa.ext E2 A1)
    have f5 := (Fld.ext E2 F1_value)
    have f6 := (Fld.ext E2 F1_coder)
    have f8 := (Safe.ext E2 (own_Bk.ch B1) Sf1)
    refine own_callNS X2 hx (y := (⟨"java/lang/String", "<init>", "([C)V"⟩ : MethodName)) rfl hown (mvT hZ (hw _ (List.mem_of_getElem? (i := 14) rfl))) (mvT hZ (hw _ (List.mem_of_getElem? (i := 15) rfl))) (mvT hZ (hw _ (List.mem_of_getElem? (i := 16) rfl))) (by decide) (backOfSH (W := 1) (rmE0 l Z a0 hw [] nb1 nb2 k2 h2 n0 (Nat.le_trans Z0 K2.1) g_nb1 f4 f5 f6 V2) hZ (hw _ (List.mem_of_getElem? (i := 16) rfl)) (hw _ (List.mem_of_getElem? (i := 12) rfl)) (by decide) (by decide) hEL (own_Bk.ch B2)) (a := nb1) (g := (mkF m 11 #[.val (.int (0 : Int32)), .val (.int x0), .val (.int x1), .val (.int x2)] [(.ref nb2), (.ref nb1), (.ref nb1)])) rfl (by rw [hml]; rfl) (argsL := [(.ref nb2)]) (rest := [(.ref nb1)]) (lenOf pd_1 rfl) rfl (by show 2 * 0 + _ ≤ _; exact Nat.le_of_eq rfl) (hb hby d5_11) rfl e2 (by decide) (by decide) hZ B2 ?_
    rintro v7 T7 L7 X7 ⟨rfl, Nq7, Kq7, Eq7, Cq7, t7, kb7, nt7, Vq7, Aq7⟩ CH7 B7 hZ hown
    have hZ : Z.Warmed39 (s.setVm T7.vm).vm := hZ
    have hown : (s.setVm T7.vm).vm.findClass "com/example/hebelwerk/hebelwerk/io/FixedFormMatchesPinLaw" = some m.cls := hown
    have N7 := Fr.app N0 Nq7
    have K7 : Keep h0 T7.heap [] := K2.trans Kq7 (allS (Or.inr sz_nb1) all0)
    show own_Go p e below _ T7 (mkF m 14 #[.val (.int (0 : Int32)), .val (.int x0), .val (.int x1), .val (.int x2)] [(.ref nb1)])
    have hp7 := own_lnil
    have ecs : own_str (0 : Int32) [x0, x1, x2] = ([] : List Int32) := rfl
    refine own_retAS X7 hx hlk hZ hEL rfl hh B7 Bd.returns rfl rfl (hb hby d5_14) ?_ (by decide) (by decide)
    show QM Z (own_str (0 : Int32) [x0, x1, x2]) h0 n0 _ T7.heap _
    exact ⟨nb1, t7, kb7, rfl, N7, K7, sz_nb1, g_nb1, nt7, Eq7, Cq7, Vq7, by rw [ecs]; exact Aq7, by rw [ecs]; exact hp7⟩
  · show own_Go p e below _ s₁ (mkF m 0 #[.val (.int (1 : Int32)), .val (.int x0), .val (.int x1), .val (.int x2)] [])
    refine own_st (fun t_ k_ => XS.iloadN X0.here hx rfl (hb hby d5_0) rfl k_) ?_
    show own_Go p e below _ s₁ (mkF m 1 #[.val (.int (1 : Int32)), .val (.int x0), .val (.int x1), .val (.int x2)] [(.int (1 : Int32))])
    refine own_st (fun t_ k_ => XS.ifYes X0.here hx rfl (pc0 := 1) (pc' := 15) rfl (hb hby d5_1) rfl (by decide) (by decide) (by decide) k_) ?_
    show own_Go p e below _ s₁ (mkF m 15 #[.val (.int (1 : Int32)), .val (.int x0), .val (.int x1), .val (.int x2)] [])
    refine own_st (fun t_ k_ => XS.iloadN X0.here hx rfl (hb hby d5_15) rfl k_) ?_
    show own_Go p e below _ s₁ (mkF m 16 #[.val (.int (1 : Int32)), .val (.int x0), .val (.int x1), .val (.int x2)] [(.int (1 : Int32))])
    refine own_st (fun t_ k_ => XS.iconst X0.here hx rfl (hb hby d5_16) k_) ?_
    show own_Go p e below _ s₁ (mkF m 17 #[.val (.int (1 : Int32)), .val (.int x0), .val (.int x1), .val (.int x2)] [(.int (1 : Int32)), (.int (1 : Int32))])
    refine own_st (fun t_ k_ => XS.icmpNo X0.here hx rfl (hb hby d5_17) rfl (by decide) k_) ?_
    show own_Go p e below _ s₁ (mkF m 20 #[.val (.int (1 : Int32)), .val (.int x0), .val (.int x1), .val (.int x2)] [])
    obtain ⟨T1, h1, X1, e1, E1, A1, D1, cel1, st1⟩ := newO X0 hx hZ hown (hw _ (List.mem_of_getElem? (i := 10) rfl)) (hw _ (List.mem_of_getElem? (i := 11) rfl)) (hw _ (List.mem_of_getElem? (i := 12) rfl)) e0 (g := (mkF m 20 #[.val (.int (1 : Int32)), .val (.int x0), .val (.int x1), .val (.int x2)] [])) rfl (hb hby d5_20) (by decide) (by decide)
    obtain ⟨nb1, g1⟩ : ∃ z, z = h0.size := ⟨_, rfl⟩
    rw [← g1] at A1 D1 cel1 st1
    refine own_st st1 ?_
    have g_nb1 : n0 ≤ nb1 := Nat.le_trans (Nat.le_trans Z0 (Keep.refl h0 []).1) (Nat.le_of_eq g1.symm)
    have K1 : Keep h0 h1 [] := (Keep.refl h0 []).ext E1
    have sz_nb1 : h0.size ≤ nb1 := Nat.le_trans (Keep.refl h0 []).1 (Nat.le_of_eq g1.symm)
    have B1 := own_Bk.ext E1 B0
    have Sf1 := Safe.ext E1 (own_Bk.ch B0) (Safe.new (Nat.le_of_eq g1.symm))
    have F1_value : Fld Z h1 nb1 "java/lang/String" "value" "[B" .null := D1 (Or.inr (hw _ (List.mem_of_getElem? (i := 26) rfl))) (ty := (.array .byte)) (by decide)
    have F1_coder : Fld Z h1 nb1 "java/lang/String" "coder" "B" (.int (0 : Int32)) := D1 (Or.inr (hw _ (List.mem_of_getElem? (i := 27) rfl))) (ty := .byte) (by decide)
    show own_Go p e below _ T1 (mkF m 23 #[.val (.int (1 : Int32)), .val (.int x0), .val (.int x1), .val (.int x2)] [(.ref nb1)])
    refine own_st (fun t_ k_ => XS.dup X1.here hx rfl (hb hby d5_23) rfl rfl k_) ?_
    show own_Go p e below _ T1 (mkF m 24 #[.val (.int (1 : Int32)), .val (.int x0), .val (.int x1), .val (.int x2)] [(.ref nb1), (.ref nb1)])
    refine own_st (fun t_ k_ => XS.iconst X1.here hx rfl (hb hby d5_24) k_) ?_
    show own_Go p e below _ T1 (mkF m 25 #[.val (.int (1 : Int32)), .val (.int x0), .val (.int x1), .val (.int x2)] [(.int (1 : Int32)), (.ref nb1), (.ref nb1)])
    obtain ⟨T2, h2, k2, X2, e2, E2, A2, st2⟩ := newP X1 hx hZ (hw _ (List.mem_of_getElem? (i := 13) rfl)) e1 (g := (mkF m 25 #[.val (.int (1 : Int32)), .val (.int x0), .val (.int x1), .val (.int x2)] [(.int (1 : Int32)), (.ref nb1), (.ref nb1)])) rfl (hb hby d5_25) rfl (by decide) (cap := 1) (by decide) (by decide) (by decide) (by decide)
    obtain ⟨nb2, g2⟩ : ∃ z, z = h1.size := ⟨_, rfl⟩
    rw [← g2] at A2 st2
    refine own_st st2 ?_
    have g_nb2 : n0 ≤ nb2 := Nat.le_trans (Nat.le_trans Z0 K1.1) (Nat.le_of_eq g2.symm)
    have K2 : Keep h0 h2 [] := K1.ext E2
    have sz_nb2 : h0.size ≤ nb2 := Nat.le_trans K1.1 (Nat.le_of_eq g2.symm)
    have B2 := own_Bk.ext E2 B1
    have Sf2 := Safe.ext E2 (own_Bk.ch B1) (Safe.new (Nat.le_of_eq g2.symm))
    have V2 : Arv Z h2 nb2 k2 .char (1 : Int32) [(.int (0 : Int32))] (.int (0 : Int32)) := (Arv.new A2 (by decide)).pad (pad_rep [] (.int (0 : Int32)) 1)
    show own_Go p e below _ T2 (mkF m 27 #[.val (.int (1 : Int32)), .val (.int x0), .val (.int x1), .val (.int x2)] [(.ref nb2), (.ref nb1), (.ref nb1)])
    refine own_st (fun t_ k_ => XS.dup X2.here hx rfl (hb hby d5_27) rfl rfl k_) ?_
    show own_Go p e below _ T2 (mkF m 28 #[.val (.int (1 : Int32)), .val (.int x0), .val (.int x1), .val (.int x2)] [(.ref nb2), (.ref nb2), (.ref nb1), (.ref nb1)])
    refine own_st (fun t_ k_ => XS.iconst X2.here hx rfl (hb hby d5_28) k_) ?_
    show own_Go p e below _ T2 (mkF m 29 #[.val (.int (1 : Int32)), .val (.int x0), .val (.int x1), .val (.int x2)] [(.int (0 : Int32)), (.ref nb2), (.ref nb2), (.ref nb1), (.ref nb1)])
    refine own_st (fun t_ k_ => XS.iloadN X2.here hx rfl (hb hby d5_29) rfl k_) ?_
    show own_Go p e below _ T2 (mkF m 30 #[.val (.int (1 : Int32)), .val (.int x0), .val (.int x1), .val (.int x2)] [(.int x0), (.int (0 : Int32)), (.ref nb2), (.ref nb2), (.ref nb1), (.ref nb1)])
    obtain ⟨cl3, Ar3, q3, S3, N3', H3, G3⟩ := id V2
    have hin3 : ¬ ((0 : Int32) < 0 ∨ cl3.slots.size ≤ ((0 : Int32)).toNatClampNeg) := inb_of S3 ⟨by decide, by decide⟩
    obtain ⟨T3, h3, X3, e3, W3, st3⟩ := stC X2 hx hZ e2 Ar3 (j := (0 : Int32)) hin3 (g := (mkF m 30 #[.val (.int (1 : Int32)), .val (.int x0), .val (.int x1), .val (.int x2)] [(.int x0), (.int (0 : Int32)), (.ref nb2), (.ref nb2), (.ref nb1), (.ref nb1)])) rfl rfl (hb hby d5_30)
    have V3 : Arv Z h3 nb2 k2 .char (1 : Int32) [(.int (nar .char x0))] (.int (0 : Int32)) := Arv.set Ar3 q3 S3 N3' H3 G3 (fits_nar_char _) W3 0 rfl (Nat.le_of_ble_eq_true rfl)
    refine own_st st3 ?_
    have Sw3 := Sf2
    have B3 := own_Bk.wr W3 Sw3 B2
    have N3 := Fr.snoc X3 N0 g_nb2
    have K3 : Keep h0 h3 [] := K2.wr W3 (Or.inr sz_nb2)
    show own_Go p e below _ T3 (mkF m 31 #[.val (.int (1 : Int32)), .val (.int x0), .val (.int x1), .val (.int x2)] [(.ref nb2), (.ref nb1), (.ref nb1)])
    have hp4 : ∀ c ∈ ([(nar .char x0)] : List Int32), ¬ c < 0 ∧ ¬ (255 : Int32) < c := (own_lcons (own_LLN hL0) own_lnil)
    have f5 := (Exa.ext E2 A1)
    have f6 := (Exa.wr W3 f5)
    have f7 := (Fld.ext E2 F1_value)
    have ne8 : nb1 ≠ nb2 := (Nat.ne_of_lt (Nat.lt_of_lt_of_le A1.lt (Nat.le_of_eq g2.symm)))
    have f9 := (Fld.other W3 f7 (Or.inl ne8))
    have f10 := (Fld.ext E2 F1_coder)
    have f11 := (Fld.other W3 f10 (Or.inl ne8))
    have f12 := (O0.ext E1)
    have f13 := (f12.ext E2)
    have f14 := (f13.wr W3 g_nb2)
    refine own_callN X3 hx (y := (⟨"java/lang/String", "<init>", "([C)V"⟩ : MethodName)) rfl hown (mvT hZ (hw _ (List.mem_of_getElem? (i := 14) rfl))) (mvT hZ (hw _ (List.mem_of_getElem? (i := 15) rfl))) (mvT hZ (hw _ (List.mem_of_getElem? (i := 16) rfl))) (by decide) (StrChars.Road.backV (W := 1) hZ (own_words hw) (kI := 4) (hw _ (List.mem_of_getElem? (i := 11) rfl)) (cs := ([(nar .char x0)] : List Int32)) (bs := ([(nar .char x0)] : List Int32).map (fun c => c.toInt8.toInt32)) (n := 1) g_nb1 (Nat.le_trans Z0 K3.1) f6 f9 f11 V3 (Sta.ext f14.2 SC) hCS rfl rfl (by decide) (by decide) hp4 rfl (by decide) (by decide)) (a := nb1) (g := (mkF m 31 #[.val (.int (1 : Int32)), .val (.int x0), .val (.int x1), .val (.int x2)] [(.ref nb2), (.ref nb1), (.ref nb1)])) rfl (by rw [hml]; rfl) (argsL := [(.ref nb2)]) (rest := [(.ref nb1)]) (lenOf pd_1 rfl) rfl (by show 2 * 0 + _ ≤ _; exact Nat.le_of_eq rfl) (hb hby d5_31) rfl e3 (by decide) (by decide) ?_
    rintro v4 T4 L4 X4 ⟨rfl, Nq4, Kq4, Eq4, Cq4, t4, kb4, g_t4, gt4, nt4, Vq4, Aq4⟩
    have sz_t4 : h0.size ≤ t4 := Nat.le_trans K3.1 gt4
    have N4 := Fr.app N3 Nq4
    have K4 : Keep h0 T4.heap [] := K3.trans Kq4 (allS (Or.inr sz_nb1) all0)
    have f15 := (Safe.ext E2 (own_Bk.ch B1) Sf1)
    have f16 := (Safe.wr W3 Sw3 (own_Bk.ch B2) f15)
    have B4 := own_Bk.keep Kq4 (sfS f16 sf0) B3
    show own_Go p e below _ T4 (mkF m 34 #[.val (.int (1 : Int32)), .val (.int x0), .val (.int x1), .val (.int x2)] [(.ref nb1)])
    have ecs : own_str (1 : Int32) [x0, x1, x2] = ([(nar .char x0)] : List Int32) := by simp [own_str, own_LN hL0, own_LN hL1, own_LN hL2]
    refine own_retAS X4 hx hlk hZ hEL rfl hh B4 Bd.returns rfl rfl (hb hby d5_34) ?_ (by decide) (by decide)
    show QM Z (own_str (1 : Int32) [x0, x1, x2]) h0 n0 _ T4.heap _
    exact ⟨nb1, t4, kb4, rfl, N4, K4, sz_nb1, g_nb1, nt4, Eq4, Cq4, Vq4, by rw [ecs]; exact Aq4, by rw [ecs]; exact hp4⟩
  · show own_Go p e below _ s₁ (mkF m 0 #[.val (.int (2 : Int32)), .val (.int x0), .val (.int x1), .val (.int x2)] [])
    refine own_st (fun t_ k_ => XS.iloadN X0.here hx rfl (hb hby d5_0) rfl k_) ?_
    show own_Go p e below _ s₁ (mkF m 1 #[.val (.int (2 : Int32)), .val (.int x0), .val (.int x1), .val (.int x2)] [(.int (2 : Int32))])
    refine own_st (fun t_ k_ => XS.ifYes X0.here hx rfl (pc0 := 1) (pc' := 15) rfl (hb hby d5_1) rfl (by decide) (by decide) (by decide) k_) ?_
    show own_Go p e below _ s₁ (mkF m 15 #[.val (.int (2 : Int32)), .val (.int x0), .val (.int x1), .val (.int x2)] [])
    refine own_st (fun t_ k_ => XS.iloadN X0.here hx rfl (hb hby d5_15) rfl k_) ?_
    show own_Go p e below _ s₁ (mkF m 16 #[.val (.int (2 : Int32)), .val (.int x0), .val (.int x1), .val (.int x2)] [(.int (2 : Int32))])
    refine own_st (fun t_ k_ => XS.iconst X0.here hx rfl (hb hby d5_16) k_) ?_
    show own_Go p e below _ s₁ (mkF m 17 #[.val (.int (2 : Int32)), .val (.int x0), .val (.int x1), .val (.int x2)] [(.int (1 : Int32)), (.int (2 : Int32))])
    refine own_st (fun t_ k_ => XS.icmpYes X0.here hx rfl (pc0 := 17) (pc' := 35) rfl (hb hby d5_17) rfl (by decide) (by decide) (by decide) k_) ?_
    show own_Go p e below _ s₁ (mkF m 35 #[.val (.int (2 : Int32)), .val (.int x0), .val (.int x1), .val (.int x2)] [])
    refine own_st (fun t_ k_ => XS.iloadN X0.here hx rfl (hb hby d5_35) rfl k_) ?_
    show own_Go p e below _ s₁ (mkF m 36 #[.val (.int (2 : Int32)), .val (.int x0), .val (.int x1), .val (.int x2)] [(.int (2 : Int32))])
    refine own_st (fun t_ k_ => XS.iconst X0.here hx rfl (hb hby d5_36) k_) ?_
    show own_Go p e below _ s₁ (mkF m 37 #[.val (.int (2 : Int32)), .val (.int x0), .val (.int x1), .val (.int x2)] [(.int (2 : Int32)), (.int (2 : Int32))])
    refine own_st (fun t_ k_ => XS.icmpNo X0.here hx rfl (hb hby d5_37) rfl (by decide) k_) ?_
    show own_Go p e below _ s₁ (mkF m 40 #[.val (.int (2 : Int32)), .val (.int x0), .val (.int x1), .val (.int x2)] [])
    obtain ⟨T1, h1, X1, e1, E1, A1, D1, cel1, st1⟩ := newO X0 hx hZ hown (hw _ (List.mem_of_getElem? (i := 10) rfl)) (hw _ (List.mem_of_getElem? (i := 11) rfl)) (hw _ (List.mem_of_getElem? (i := 12) rfl)) e0 (g := (mkF m 40 #[.val (.int (2 : Int32)), .val (.int x0), .val (.int x1), .val (.int x2)] [])) rfl (hb hby d5_40) (by decide) (by decide)
    obtain ⟨nb1, g1⟩ : ∃ z, z = h0.size := ⟨_, rfl⟩
    rw [← g1] at A1 D1 cel1 st1
    refine own_st st1 ?_
    have g_nb1 : n0 ≤ nb1 := Nat.le_trans (Nat.le_trans Z0 (Keep.refl h0 []).1) (Nat.le_of_eq g1.symm)
    have K1 : Keep h0 h1 [] := (Keep.refl h0 []).ext E1
    have sz_nb1 : h0.size ≤ nb1 := Nat.le_trans (Keep.refl h0 []).1 (Nat.le_of_eq g1.symm)
    have B1 := own_Bk.ext E1 B0
    have Sf1 := Safe.ext E1 (own_Bk.ch B0) (Safe.new (Nat.le_of_eq g1.symm))
    have F1_value : Fld Z h1 nb1 "java/lang/String" "value" "[B" .null := D1 (Or.inr (hw _ (List.mem_of_getElem? (i := 26) rfl))) (ty := (.array .byte)) (by decide)
    have F1_coder : Fld Z h1 nb1 "java/lang/String" "coder" "B" (.int (0 : Int32)) := D1 (Or.inr (hw _ (List.mem_of_getElem? (i := 27) rfl))) (ty := .byte) (by decide)
    show own_Go p e below _ T1 (mkF m 43 #[.val (.int (2 : Int32)), .val (.int x0), .val (.int x1), .val (.int x2)] [(.ref nb1)])
    refine own_st (fun t_ k_ => XS.dup X1.here hx rfl (hb hby d5_43) rfl rfl k_) ?_
    show own_Go p e below _ T1 (mkF m 44 #[.val (.int (2 : Int32)), .val (.int x0), .val (.int x1), .val (.int x2)] [(.ref nb1), (.ref nb1)])
    refine own_st (fun t_ k_ => XS.iconst X1.here hx rfl (hb hby d5_44) k_) ?_
    show own_Go p e below _ T1 (mkF m 45 #[.val (.int (2 : Int32)), .val (.int x0), .val (.int x1), .val (.int x2)] [(.int (2 : Int32)), (.ref nb1), (.ref nb1)])
    obtain ⟨T2, h2, k2, X2, e2, E2, A2, st2⟩ := newP X1 hx hZ (hw _ (List.mem_of_getElem? (i := 13) rfl)) e1 (g := (mkF m 45 #[.val (.int (2 : Int32)), .val (.int x0), .val (.int x1), .val (.int x2)] [(.int (2 : Int32)), (.ref nb1), (.ref nb1)])) rfl (hb hby d5_45) rfl (by decide) (cap := 2) (by decide) (by decide) (by decide) (by decide)
    obtain ⟨nb2, g2⟩ : ∃ z, z = h1.size := ⟨_, rfl⟩
    rw [← g2] at A2 st2
    refine own_st st2 ?_
    have g_nb2 : n0 ≤ nb2 := Nat.le_trans (Nat.le_trans Z0 K1.1) (Nat.le_of_eq g2.symm)
    have K2 : Keep h0 h2 [] := K1.ext E2
    have sz_nb2 : h0.size ≤ nb2 := Nat.le_trans K1.1 (Nat.le_of_eq g2.symm)
    have B2 := own_Bk.ext E2 B1
    have Sf2 := Safe.ext E2 (own_Bk.ch B1) (Safe.new (Nat.le_of_eq g2.symm))
    have V2 : Arv Z h2 nb2 k2 .char (2 : Int32) [(.int (0 : Int32)), (.int (0 : Int32))] (.int (0 : Int32)) := (Arv.new A2 (by decide)).pad (pad_rep [] (.int (0 : Int32)) 2)
    show own_Go p e below _ T2 (mkF m 47 #[.val (.int (2 : Int32)), .val (.int x0), .val (.int x1), .val (.int x2)] [(.ref nb2), (.ref nb1), (.ref nb1)])
    refine own_st (fun t_ k_ => XS.dup X2.here hx rfl (hb hby d5_47) rfl rfl k_) ?_
    show own_Go p e below _ T2 (mkF m 48 #[.val (.int (2 : Int32)), .val (.int x0), .val (.int x1), .val (.int x2)] [(.ref nb2), (.ref nb2), (.ref nb1), (.ref nb1)])
    refine own_st (fun t_ k_ => XS.iconst X2.here hx rfl (hb hby d5_48) k_) ?_
    show own_Go p e below _ T2 (mkF m 49 #[.val (.int (2 : Int32)), .val (.int x0), .val (.int x1), .val (.int x2)] [(.int (0 : Int32)), (.ref nb2), (.ref nb2), (.ref nb1), (.ref nb1)])
    refine own_st (fun t_ k_ => XS.iloadN X2.here hx rfl (hb hby d5_49) rfl k_) ?_
    show own_Go p e below _ T2 (mkF m 50 #[.val (.int (2 : Int32)), .val (.int x0), .val (.int x1), .val (.int x2)] [(.int x0), (.int (0 : Int32)), (.ref nb2), (.ref nb2), (.ref nb1), (.ref nb1)])
    obtain ⟨cl3, Ar3, q3, S3, N3', H3, G3⟩ := id V2
    have hin3 : ¬ ((0 : Int32) < 0 ∨ cl3.slots.size ≤ ((0 : Int32)).toNatClampNeg) := inb_of S3 ⟨by decide, by decide⟩
    obtain ⟨T3, h3, X3, e3, W3, st3⟩ := stC X2 hx hZ e2 Ar3 (j := (0 : Int32)) hin3 (g := (mkF m 50 #[.val (.int (2 : Int32)), .val (.int x0), .val (.int x1), .val (.int x2)] [(.int x0), (.int (0 : Int32)), (.ref nb2), (.ref nb2), (.ref nb1), (.ref nb1)])) rfl rfl (hb hby d5_50)
    have V3 : Arv Z h3 nb2 k2 .char (2 : Int32) [(.int (nar .char x0)), (.int (0 : Int32))] (.int (0 : Int32)) := Arv.set Ar3 q3 S3 N3' H3 G3 (fits_nar_char _) W3 0 rfl (Nat.le_of_ble_eq_true rfl)
    refine own_st st3 ?_
    have Sw3 := Sf2
    have B3 := own_Bk.wr W3 Sw3 B2
    have N3 := Fr.snoc X3 N0 g_nb2
    have K3 : Keep h0 h3 [] := K2.wr W3 (Or.inr sz_nb2)
    show own_Go p e below _ T3 (mkF m 51 #[.val (.int (2 : Int32)), .val (.int x0), .val (.int x1), .val (.int x2)] [(.ref nb2), (.ref nb1), (.ref nb1)])
    refine own_st (fun t_ k_ => XS.dup X3.here hx rfl (hb hby d5_51) rfl rfl k_) ?_
    show own_Go p e below _ T3 (mkF m 52 #[.val (.int (2 : Int32)), .val (.int x0), .val (.int x1), .val (.int x2)] [(.ref nb2), (.ref nb2), (.ref nb1), (.ref nb1)])
    refine own_st (fun t_ k_ => XS.iconst X3.here hx rfl (hb hby d5_52) k_) ?_
    show own_Go p e below _ T3 (mkF m 53 #[.val (.int (2 : Int32)), .val (.int x0), .val (.int x1), .val (.int x2)] [(.int (1 : Int32)), (.ref nb2), (.ref nb2), (.ref nb1), (.ref nb1)])
    refine own_st (fun t_ k_ => XS.iloadN X3.here hx rfl (hb hby d5_53) rfl k_) ?_
    show own_Go p e below _ T3 (mkF m 54 #[.val (.int (2 : Int32)), .val (.int x0), .val (.int x1), .val (.int x2)] [(.int x1), (.int (1 : Int32)), (.ref nb2), (.ref nb2), (.ref nb1), (.ref nb1)])
    obtain ⟨cl4, Ar4, q4, S4, N4', H4, G4⟩ := id V3
    have hin4 : ¬ ((1 : Int32) < 0 ∨ cl4.slots.size ≤ ((1 : Int32)).toNatClampNeg) := inb_of S4 ⟨by decide, by decide⟩
    obtain ⟨T4, h4, X4, e4, W4, st4⟩ := stC X3 hx hZ e3 Ar4 (j := (1 : Int32)) hin4 (g := (mkF m 54 #[.val (.int (2 : Int32)), .val (.int x0), .val (.int x1), .val (.int x2)] [(.int x1), (.int (1 : Int32)), (.ref nb2), (.ref nb2), (.ref nb1), (.ref nb1)])) rfl rfl (hb hby d5_54)
    have V4 : Arv Z h4 nb2 k2 .char (2 : Int32) [(.int (nar .char x0)), (.int (nar .char x1))] (.int (0 : Int32)) := Arv.set Ar4 q4 S4 N4' H4 G4 (fits_nar_char _) W4 1 rfl (Nat.le_of_ble_eq_true rfl)
    refine own_st st4 ?_
    have f5 := (Safe.wr W3 Sw3 (own_Bk.ch B2) Sf2)
    have Sw4 := f5
    have B4 := own_Bk.wr W4 Sw4 B3
    have N4 := Fr.snoc X4 N3 g_nb2
    have K4 : Keep h0 h4 [] := K3.wr W4 (Or.inr sz_nb2)
    show own_Go p e below _ T4 (mkF m 55 #[.val (.int (2 : Int32)), .val (.int x0), .val (.int x1), .val (.int x2)] [(.ref nb2), (.ref nb1), (.ref nb1)])
    have hp6 : ∀ c ∈ ([(nar .char x0), (nar .char x1)] : List Int32), ¬ c < 0 ∧ ¬ (255 : Int32) < c := (own_lcons (own_LLN hL0) (own_lcons (own_LLN hL1) own_lnil))
    have f7 := (Exa.ext E2 A1)
    have f8 := (Exa.wr W3 f7)
    have f9 := (Exa.wr W4 f8)
    have f10 := (Fld.ext E2 F1_value)
    have ne11 : nb1 ≠ nb2 := (Nat.ne_of_lt (Nat.lt_of_lt_of_le A1.lt (Nat.le_of_eq g2.symm)))
    have f12 := (Fld.other W3 f10 (Or.inl ne11))
    have f13 := (Fld.other W4 f12 (Or.inl ne11))
    have f14 := (Fld.ext E2 F1_coder)
    have f15 := (Fld.other W3 f14 (Or.inl ne11))
    have f16 := (Fld.other W4 f15 (Or.inl ne11))
    have f17 := (O0.ext E1)
    have f18 := (f17.ext E2)
    have f19 := (f18.wr W3 g_nb2)
    have f20 := (f19.wr W4 g_nb2)
    refine own_callN X4 hx (y := (⟨"java/lang/String", "<init>", "([C)V"⟩ : MethodName)) rfl hown (mvT hZ (hw _ (List.mem_of_getElem? (i := 14) rfl))) (mvT hZ (hw _ (List.mem_of_getElem? (i := 15) rfl))) (mvT hZ (hw _ (List.mem_of_getElem? (i := 16) rfl))) (by decide) (StrChars.Road.backV (W := 1) hZ (own_words hw) (kI := 4) (hw _ (List.mem_of_getElem? (i := 11) rfl)) (cs := ([(nar .char x0), (nar .char x1)] : List Int32)) (bs := ([(nar .char x0), (nar .char x1)] : List Int32).map (fun c => c.toInt8.toInt32)) (n := 2) g_nb1 (Nat.le_trans Z0 K4.1) f9 f13 f16 V4 (Sta.ext f20.2 SC) hCS rfl rfl (by decide) (by decide) hp6 rfl (by decide) (by decide)) (a := nb1) (g := (mkF m 55 #[.val (.int (2 : Int32)), .val (.int x0), .val (.int x1), .val (.int x2)] [(.ref nb2), (.ref nb1), (.ref nb1)])) rfl (by rw [hml]; rfl) (argsL := [(.ref nb2)]) (rest := [(.ref nb1)]) (lenOf pd_1 rfl) rfl (by show 2 * 0 + _ ≤ _; exact Nat.le_of_eq rfl) (hb hby d5_55) rfl e4 (by decide) (by decide) ?_
    rintro v6 T6 L6 X6 ⟨rfl, Nq6, Kq6, Eq6, Cq6, t6, kb6, g_t6, gt6, nt6, Vq6, Aq6⟩
    have sz_t6 : h0.size ≤ t6 := Nat.le_trans K4.1 gt6
    have N6 := Fr.app N4 Nq6
    have K6 : Keep h0 T6.heap [] := K4.trans Kq6 (allS (Or.inr sz_nb1) all0)
    have f21 := (Safe.ext E2 (own_Bk.ch B1) Sf1)
    have f22 := (Safe.wr W3 Sw3 (own_Bk.ch B2) f21)
    have f23 := (Safe.wr W4 Sw4 (own_Bk.ch B3) f22)
    have B6 := own_Bk.keep Kq6 (sfS f23 sf0) B4
    show own_Go p e below _ T6 (mkF m 58 #[.val (.int (2 : Int32)), .val (.int x0), .val (.int x1), .val (.int x2)] [(.ref nb1)])
    have ecs : own_str (2 : Int32) [x0, x1, x2] = ([(nar .char x0), (nar .char x1)] : List Int32) := by simp [own_str, own_LN hL0, own_LN hL1, own_LN hL2]
    refine own_retAS X6 hx hlk hZ hEL rfl hh B6 Bd.returns rfl rfl (hb hby d5_58) ?_ (by decide) (by decide)
    show QM Z (own_str (2 : Int32) [x0, x1, x2]) h0 n0 _ T6.heap _
    exact ⟨nb1, t6, kb6, rfl, N6, K6, sz_nb1, g_nb1, nt6, Eq6, Cq6, Vq6, by rw [ecs]; exact Aq6, by rw [ecs]; exact hp6⟩
  · show own_Go p e below _ s₁ (mkF m 0 #[.val (.int (3 : Int32)), .val (.int x0), .val (.int x1), .val (.int x2)] [])
    refine own_st (fun t_ k_ => XS.iloadN X0.here hx rfl (hb hby d5_0) rfl k_) ?_
    show own_Go p e below _ s₁ (mkF m 1 #[.val (.int (3 : Int32)), .val (.int x0), .val (.int x1), .val (.int x2)] [(.int (3 : Int32))])
    refine own_st (fun t_ k_ => XS.ifYes X0.here hx rfl (pc0 := 1) (pc' := 15) rfl (hb hby d5_1) rfl (by decide) (by decide) (by decide) k_) ?_
    show own_Go p e below _ s₁ (mkF m 15 #[.val (.int (3 : Int32)), .val (.int x0), .val (.int x1), .val (.int x2)] [])
    refine own_st (fun t_ k_ => XS.iloadN X0.here hx rfl (hb hby d5_15) rfl k_) ?_
    show own_Go p e below _ s₁ (mkF m 16 #[.val (.int (3 : Int32)), .val (.int x0), .val (.int x1), .val (.int x2)] [(.int (3 : Int32))])
    refine own_st (fun t_ k_ => XS.iconst X0.here hx rfl (hb hby d5_16) k_) ?_
    show own_Go p e below _ s₁ (mkF m 17 #[.val (.int (3 : Int32)), .val (.int x0), .val (.int x1), .val (.int x2)] [(.int (1 : Int32)), (.int (3 : Int32))])
    refine own_st (fun t_ k_ => XS.icmpYes X0.here hx rfl (pc0 := 17) (pc' := 35) rfl (hb hby d5_17) rfl (by decide) (by decide) (by decide) k_) ?_
    show own_Go p e below _ s₁ (mkF m 35 #[.val (.int (3 : Int32)), .val (.int x0), .val (.int x1), .val (.int x2)] [])
    refine own_st (fun t_ k_ => XS.iloadN X0.here hx rfl (hb hby d5_35) rfl k_) ?_
    show own_Go p e below _ s₁ (mkF m 36 #[.val (.int (3 : Int32)), .val (.int x0), .val (.int x1), .val (.int x2)] [(.int (3 : Int32))])
    refine own_st (fun t_ k_ => XS.iconst X0.here hx rfl (hb hby d5_36) k_) ?_
    show own_Go p e below _ s₁ (mkF m 37 #[.val (.int (3 : Int32)), .val (.int x0), .val (.int x1), .val (.int x2)] [(.int (2 : Int32)), (.int (3 : Int32))])
    refine own_st (fun t_ k_ => XS.icmpYes X0.here hx rfl (pc0 := 37) (pc' := 59) rfl (hb hby d5_37) rfl (by decide) (by decide) (by decide) k_) ?_
    show own_Go p e below _ s₁ (mkF m 59 #[.val (.int (3 : Int32)), .val (.int x0), .val (.int x1), .val (.int x2)] [])
    obtain ⟨T1, h1, X1, e1, E1, A1, D1, cel1, st1⟩ := newO X0 hx hZ hown (hw _ (List.mem_of_getElem? (i := 10) rfl)) (hw _ (List.mem_of_getElem? (i := 11) rfl)) (hw _ (List.mem_of_getElem? (i := 12) rfl)) e0 (g := (mkF m 59 #[.val (.int (3 : Int32)), .val (.int x0), .val (.int x1), .val (.int x2)] [])) rfl (hb hby d5_59) (by decide) (by decide)
    obtain ⟨nb1, g1⟩ : ∃ z, z = h0.size := ⟨_, rfl⟩
    rw [← g1] at A1 D1 cel1 st1
    refine own_st st1 ?_
    have g_nb1 : n0 ≤ nb1 := Nat.le_trans (Nat.le_trans Z0 (Keep.refl h0 []).1) (Nat.le_of_eq g1.symm)
    have K1 : Keep h0 h1 [] := (Keep.refl h0 []).ext E1
    have sz_nb1 : h0.size ≤ nb1 := Nat.le_trans (Keep.refl h0 []).1 (Nat.le_of_eq g1.symm)
    have B1 := own_Bk.ext E1 B0
    have Sf1 := Safe.ext E1 (own_Bk.ch B0) (Safe.new (Nat.le_of_eq g1.symm))
    have F1_value : Fld Z h1 nb1 "java/lang/String" "value" "[B" .null := D1 (Or.inr (hw _ (List.mem_of_getElem? (i := 26) rfl))) (ty := (.array .byte)) (by decide)
    have F1_coder : Fld Z h1 nb1 "java/lang/String" "coder" "B" (.int (0 : Int32)) := D1 (Or.inr (hw _ (List.mem_of_getElem? (i := 27) rfl))) (ty := .byte) (by decide)
    show own_Go p e below _ T1 (mkF m 62 #[.val (.int (3 : Int32)), .val (.int x0), .val (.int x1), .val (.int x2)] [(.ref nb1)])
    refine own_st (fun t_ k_ => XS.dup X1.here hx rfl (hb hby d5_62) rfl rfl k_) ?_
    show own_Go p e below _ T1 (mkF m 63 #[.val (.int (3 : Int32)), .val (.int x0), .val (.int x1), .val (.int x2)] [(.ref nb1), (.ref nb1)])
    refine own_st (fun t_ k_ => XS.iconst X1.here hx rfl (hb hby d5_63) k_) ?_
    show own_Go p e below _ T1 (mkF m 64 #[.val (.int (3 : Int32)), .val (.int x0), .val (.int x1), .val (.int x2)] [(.int (3 : Int32)), (.ref nb1), (.ref nb1)])
    obtain ⟨T2, h2, k2, X2, e2, E2, A2, st2⟩ := newP X1 hx hZ (hw _ (List.mem_of_getElem? (i := 13) rfl)) e1 (g := (mkF m 64 #[.val (.int (3 : Int32)), .val (.int x0), .val (.int x1), .val (.int x2)] [(.int (3 : Int32)), (.ref nb1), (.ref nb1)])) rfl (hb hby d5_64) rfl (by decide) (cap := 3) (by decide) (by decide) (by decide) (by decide)
    obtain ⟨nb2, g2⟩ : ∃ z, z = h1.size := ⟨_, rfl⟩
    rw [← g2] at A2 st2
    refine own_st st2 ?_
    have g_nb2 : n0 ≤ nb2 := Nat.le_trans (Nat.le_trans Z0 K1.1) (Nat.le_of_eq g2.symm)
    have K2 : Keep h0 h2 [] := K1.ext E2
    have sz_nb2 : h0.size ≤ nb2 := Nat.le_trans K1.1 (Nat.le_of_eq g2.symm)
    have B2 := own_Bk.ext E2 B1
    have Sf2 := Safe.ext E2 (own_Bk.ch B1) (Safe.new (Nat.le_of_eq g2.symm))
    have V2 : Arv Z h2 nb2 k2 .char (3 : Int32) [(.int (0 : Int32)), (.int (0 : Int32)), (.int (0 : Int32))] (.int (0 : Int32)) := (Arv.new A2 (by decide)).pad (pad_rep [] (.int (0 : Int32)) 3)
    show own_Go p e below _ T2 (mkF m 66 #[.val (.int (3 : Int32)), .val (.int x0), .val (.int x1), .val (.int x2)] [(.ref nb2), (.ref nb1), (.ref nb1)])
    refine own_st (fun t_ k_ => XS.dup X2.here hx rfl (hb hby d5_66) rfl rfl k_) ?_
    show own_Go p e below _ T2 (mkF m 67 #[.val (.int (3 : Int32)), .val (.int x0), .val (.int x1), .val (.int x2)] [(.ref nb2), (.ref nb2), (.ref nb1), (.ref nb1)])
    refine own_st (fun t_ k_ => XS.iconst X2.here hx rfl (hb hby d5_67) k_) ?_
    show own_Go p e below _ T2 (mkF m 68 #[.val (.int (3 : Int32)), .val (.int x0), .val (.int x1), .val (.int x2)] [(.int (0 : Int32)), (.ref nb2), (.ref nb2), (.ref nb1), (.ref nb1)])
    refine own_st (fun t_ k_ => XS.iloadN X2.here hx rfl (hb hby d5_68) rfl k_) ?_
    show own_Go p e below _ T2 (mkF m 69 #[.val (.int (3 : Int32)), .val (.int x0), .val (.int x1), .val (.int x2)] [(.int x0), (.int (0 : Int32)), (.ref nb2), (.ref nb2), (.ref nb1), (.ref nb1)])
    obtain ⟨cl3, Ar3, q3, S3, N3', H3, G3⟩ := id V2
    have hin3 : ¬ ((0 : Int32) < 0 ∨ cl3.slots.size ≤ ((0 : Int32)).toNatClampNeg) := inb_of S3 ⟨by decide, by decide⟩
    obtain ⟨T3, h3, X3, e3, W3, st3⟩ := stC X2 hx hZ e2 Ar3 (j := (0 : Int32)) hin3 (g := (mkF m 69 #[.val (.int (3 : Int32)), .val (.int x0), .val (.int x1), .val (.int x2)] [(.int x0), (.int (0 : Int32)), (.ref nb2), (.ref nb2), (.ref nb1), (.ref nb1)])) rfl rfl (hb hby d5_69)
    have V3 : Arv Z h3 nb2 k2 .char (3 : Int32) [(.int (nar .char x0)), (.int (0 : Int32)), (.int (0 : Int32))] (.int (0 : Int32)) := Arv.set Ar3 q3 S3 N3' H3 G3 (fits_nar_char _) W3 0 rfl (Nat.le_of_ble_eq_true rfl)
    refine own_st st3 ?_
    have Sw3 := Sf2
    have B3 := own_Bk.wr W3 Sw3 B2
    have N3 := Fr.snoc X3 N0 g_nb2
    have K3 : Keep h0 h3 [] := K2.wr W3 (Or.inr sz_nb2)
    show own_Go p e below _ T3 (mkF m 70 #[.val (.int (3 : Int32)), .val (.int x0), .val (.int x1), .val (.int x2)] [(.ref nb2), (.ref nb1), (.ref nb1)])
    refine own_st (fun t_ k_ => XS.dup X3.here hx rfl (hb hby d5_70) rfl rfl k_) ?_
    show own_Go p e below _ T3 (mkF m 71 #[.val (.int (3 : Int32)), .val (.int x0), .val (.int x1), .val (.int x2)] [(.ref nb2), (.ref nb2), (.ref nb1), (.ref nb1)])
    refine own_st (fun t_ k_ => XS.iconst X3.here hx rfl (hb hby d5_71) k_) ?_
    show own_Go p e below _ T3 (mkF m 72 #[.val (.int (3 : Int32)), .val (.int x0), .val (.int x1), .val (.int x2)] [(.int (1 : Int32)), (.ref nb2), (.ref nb2), (.ref nb1), (.ref nb1)])
    refine own_st (fun t_ k_ => XS.iloadN X3.here hx rfl (hb hby d5_72) rfl k_) ?_
    show own_Go p e below _ T3 (mkF m 73 #[.val (.int (3 : Int32)), .val (.int x0), .val (.int x1), .val (.int x2)] [(.int x1), (.int (1 : Int32)), (.ref nb2), (.ref nb2), (.ref nb1), (.ref nb1)])
    obtain ⟨cl4, Ar4, q4, S4, N4', H4, G4⟩ := id V3
    have hin4 : ¬ ((1 : Int32) < 0 ∨ cl4.slots.size ≤ ((1 : Int32)).toNatClampNeg) := inb_of S4 ⟨by decide, by decide⟩
    obtain ⟨T4, h4, X4, e4, W4, st4⟩ := stC X3 hx hZ e3 Ar4 (j := (1 : Int32)) hin4 (g := (mkF m 73 #[.val (.int (3 : Int32)), .val (.int x0), .val (.int x1), .val (.int x2)] [(.int x1), (.int (1 : Int32)), (.ref nb2), (.ref nb2), (.ref nb1), (.ref nb1)])) rfl rfl (hb hby d5_73)
    have V4 : Arv Z h4 nb2 k2 .char (3 : Int32) [(.int (nar .char x0)), (.int (nar .char x1)), (.int (0 : Int32))] (.int (0 : Int32)) := Arv.set Ar4 q4 S4 N4' H4 G4 (fits_nar_char _) W4 1 rfl (Nat.le_of_ble_eq_true rfl)
    refine own_st st4 ?_
    have f5 := (Safe.wr W3 Sw3 (own_Bk.ch B2) Sf2)
    have Sw4 := f5
    have B4 := own_Bk.wr W4 Sw4 B3
    have N4 := Fr.snoc X4 N3 g_nb2
    have K4 : Keep h0 h4 [] := K3.wr W4 (Or.inr sz_nb2)
    show own_Go p e below _ T4 (mkF m 74 #[.val (.int (3 : Int32)), .val (.int x0), .val (.int x1), .val (.int x2)] [(.ref nb2), (.ref nb1), (.ref nb1)])
    refine own_st (fun t_ k_ => XS.dup X4.here hx rfl (hb hby d5_74) rfl rfl k_) ?_
    show own_Go p e below _ T4 (mkF m 75 #[.val (.int (3 : Int32)), .val (.int x0), .val (.int x1), .val (.int x2)] [(.ref nb2), (.ref nb2), (.ref nb1), (.ref nb1)])
    refine own_st (fun t_ k_ => XS.iconst X4.here hx rfl (hb hby d5_75) k_) ?_
    show own_Go p e below _ T4 (mkF m 76 #[.val (.int (3 : Int32)), .val (.int x0), .val (.int x1), .val (.int x2)] [(.int (2 : Int32)), (.ref nb2), (.ref nb2), (.ref nb1), (.ref nb1)])
    refine own_st (fun t_ k_ => XS.iloadN X4.here hx rfl (hb hby d5_76) rfl k_) ?_
    show own_Go p e below _ T4 (mkF m 77 #[.val (.int (3 : Int32)), .val (.int x0), .val (.int x1), .val (.int x2)] [(.int x2), (.int (2 : Int32)), (.ref nb2), (.ref nb2), (.ref nb1), (.ref nb1)])
    obtain ⟨cl6, Ar6, q6, S6, N6', H6, G6⟩ := id V4
    have hin6 : ¬ ((2 : Int32) < 0 ∨ cl6.slots.size ≤ ((2 : Int32)).toNatClampNeg) := inb_of S6 ⟨by decide, by decide⟩
    obtain ⟨T6, h6, X6, e6, W6, st6⟩ := stC X4 hx hZ e4 Ar6 (j := (2 : Int32)) hin6 (g := (mkF m 77 #[.val (.int (3 : Int32)), .val (.int x0), .val (.int x1), .val (.int x2)] [(.int x2), (.int (2 : Int32)), (.ref nb2), (.ref nb2), (.ref nb1), (.ref nb1)])) rfl rfl (hb hby d5_77)
    have V6 : Arv Z h6 nb2 k2 .char (3 : Int32) [(.int (nar .char x0)), (.int (nar .char x1)), (.int (nar .char x2))] (.int (0 : Int32)) := Arv.set Ar6 q6 S6 N6' H6 G6 (fits_nar_char _) W6 2 rfl (Nat.le_of_ble_eq_true rfl)
    refine own_st st6 ?_
    have f7 := (Safe.wr W4 Sw4 (own_Bk.ch B3) f5)
    have Sw6 := f7
    have B6 := own_Bk.wr W6 Sw6 B4
    have N6 := Fr.snoc X6 N4 g_nb2
    have K6 : Keep h0 h6 [] := K4.wr W6 (Or.inr sz_nb2)
    show own_Go p e below _ T6 (mkF m 78 #[.val (.int (3 : Int32)), .val (.int x0), .val (.int x1), .val (.int x2)] [(.ref nb2), (.ref nb1), (.ref nb1)])
    have hp8 : ∀ c ∈ ([(nar .char x0), (nar .char x1), (nar .char x2)] : List Int32), ¬ c < 0 ∧ ¬ (255 : Int32) < c := (own_lcons (own_LLN hL0) (own_lcons (own_LLN hL1) (own_lcons (own_LLN hL2) own_lnil)))
    have f9 := (Exa.ext E2 A1)
    have f10 := (Exa.wr W3 f9)
    have f11 := (Exa.wr W4 f10)
    have f12 := (Exa.wr W6 f11)
    have f13 := (Fld.ext E2 F1_value)
    have ne14 : nb1 ≠ nb2 := (Nat.ne_of_lt (Nat.lt_of_lt_of_le A1.lt (Nat.le_of_eq g2.symm)))
    have f15 := (Fld.other W3 f13 (Or.inl ne14))
    have f16 := (Fld.other W4 f15 (Or.inl ne14))
    have f17 := (Fld.other W6 f16 (Or.inl ne14))
    have f18 := (Fld.ext E2 F1_coder)
    have f19 := (Fld.other W3 f18 (Or.inl ne14))
    have f20 := (Fld.other W4 f19 (Or.inl ne14))
    have f21 := (Fld.other W6 f20 (Or.inl ne14))
    have f22 := (O0.ext E1)
    have f23 := (f22.ext E2)
    have f24 := (f23.wr W3 g_nb2)
    have f25 := (f24.wr W4 g_nb2)
    have f26 := (f25.wr W6 g_nb2)
    refine own_callN X6 hx (y := (⟨"java/lang/String", "<init>", "([C)V"⟩ : MethodName)) rfl hown (mvT hZ (hw _ (List.mem_of_getElem? (i := 14) rfl))) (mvT hZ (hw _ (List.mem_of_getElem? (i := 15) rfl))) (mvT hZ (hw _ (List.mem_of_getElem? (i := 16) rfl))) (by decide) (StrChars.Road.backV (W := 1) hZ (own_words hw) (kI := 4) (hw _ (List.mem_of_getElem? (i := 11) rfl)) (cs := ([(nar .char x0), (nar .char x1), (nar .char x2)] : List Int32)) (bs := ([(nar .char x0), (nar .char x1), (nar .char x2)] : List Int32).map (fun c => c.toInt8.toInt32)) (n := 3) g_nb1 (Nat.le_trans Z0 K6.1) f12 f17 f21 V6 (Sta.ext f26.2 SC) hCS rfl rfl (by decide) (by decide) hp8 rfl (by decide) (by decide)) (a := nb1) (g := (mkF m 78 #[.val (.int (3 : Int32)), .val (.int x0), .val (.int x1), .val (.int x2)] [(.ref nb2), (.ref nb1), (.ref nb1)])) rfl (by rw [hml]; rfl) (argsL := [(.ref nb2)]) (rest := [(.ref nb1)]) (lenOf pd_1 rfl) rfl (by show 2 * 0 + _ ≤ _; exact Nat.le_of_eq rfl) (hb hby d5_78) rfl e6 (by decide) (by decide) ?_
    rintro v8 T8 L8 X8 ⟨rfl, Nq8, Kq8, Eq8, Cq8, t8, kb8, g_t8, gt8, nt8, Vq8, Aq8⟩
    have sz_t8 : h0.size ≤ t8 := Nat.le_trans K6.1 gt8
    have N8 := Fr.app N6 Nq8
    have K8 : Keep h0 T8.heap [] := K6.trans Kq8 (allS (Or.inr sz_nb1) all0)
    have f27 := (Safe.ext E2 (own_Bk.ch B1) Sf1)
    have f28 := (Safe.wr W3 Sw3 (own_Bk.ch B2) f27)
    have f29 := (Safe.wr W4 Sw4 (own_Bk.ch B3) f28)
    have f30 := (Safe.wr W6 Sw6 (own_Bk.ch B4) f29)
    have B8 := own_Bk.keep Kq8 (sfS f30 sf0) B6
    show own_Go p e below _ T8 (mkF m 81 #[.val (.int (3 : Int32)), .val (.int x0), .val (.int x1), .val (.int x2)] [(.ref nb1)])
    have ecs : own_str (3 : Int32) [x0, x1, x2] = ([(nar .char x0), (nar .char x1), (nar .char x2)] : List Int32) := by simp [own_str, own_LN hL0, own_LN hL1, own_LN hL2]
    refine own_retAS X8 hx hlk hZ hEL rfl hh B8 Bd.returns rfl rfl (hb hby d5_81) ?_ (by decide) (by decide)
    show QM Z (own_str (3 : Int32) [x0, x1, x2]) h0 n0 _ T8.heap _
    exact ⟨nb1, t8, kb8, rfl, N8, K8, sz_nb1, g_nb1, nt8, Eq8, Cq8, Vq8, by rw [ecs]; exact Aq8, by rw [ecs]; exact hp8⟩
def QR (r : Value) (h0 : Heap) (n0 : Nat) (v : Option Value) (h : Heap) (L : List Loc) : Prop := v = some r ∧ Fr n0 L ∧ h = h0
def own_cap (e : Int32) : Int32 := if e < 65 then 0 else if (90 : Int32) < e then 0 else 1
def own_fits (e a : Int32) : Int32 := if e < 65 then (if a = e then 1 else 0) else if (90 : Int32) < e then (if a = e then 1 else 0) else if a < 48 then 0 else if (57 : Int32) < a then 0 else 1
theorem d6_0 : decode method_6_code 0 = .ok (.iload_n 0, 1) := by decide +kernel
theorem d6_1 : decode method_6_code 1 = .ok (.bipush 65, 2) := by decide +kernel
theorem d6_3 : decode method_6_code 3 = .ok (.if_icmp .lt 27, 3) := by decide +kernel
theorem d6_30 : decode method_6_code 30 = .ok (.iload_n 1, 1) := by decide +kernel
theorem d6_31 : decode method_6_code 31 = .ok (.iload_n 0, 1) := by decide +kernel
theorem d6_32 : decode method_6_code 32 = .ok (.if_icmp .ne 7, 3) := by decide +kernel
theorem d6_39 : decode method_6_code 39 = .ok (.iconst 0, 1) := by decide +kernel
theorem d6_40 : decode method_6_code 40 = .ok (.ireturn, 1) := by decide +kernel
theorem d6_35 : decode method_6_code 35 = .ok (.iconst 1, 1) := by decide +kernel
theorem d6_36 : decode method_6_code 36 = .ok (.goto 4, 3) := by decide +kernel
theorem d6_6 : decode method_6_code 6 = .ok (.iload_n 0, 1) := by decide +kernel
theorem d6_7 : decode method_6_code 7 = .ok (.bipush 90, 2) := by decide +kernel
theorem d6_9 : decode method_6_code 9 = .ok (.if_icmp .gt 21, 3) := by decide +kernel
theorem d6_12 : decode method_6_code 12 = .ok (.iload_n 1, 1) := by decide +kernel
theorem d6_13 : decode method_6_code 13 = .ok (.bipush 48, 2) := by decide +kernel
theorem d6_15 : decode method_6_code 15 = .ok (.if_icmp .lt 13, 3) := by decide +kernel
theorem d6_28 : decode method_6_code 28 = .ok (.iconst 0, 1) := by decide +kernel
theorem d6_29 : decode method_6_code 29 = .ok (.ireturn, 1) := by decide +kernel
theorem d6_18 : decode method_6_code 18 = .ok (.iload_n 1, 1) := by decide +kernel
theorem d6_19 : decode method_6_code 19 = .ok (.bipush 57, 2) := by decide +kernel
theorem d6_21 : decode method_6_code 21 = .ok (.if_icmp .gt 7, 3) := by decide +kernel
theorem d6_24 : decode method_6_code 24 = .ok (.iconst 1, 1) := by decide +kernel
theorem d6_25 : decode method_6_code 25 = .ok (.goto 4, 3) := by decide +kernel
theorem ef_rmFI (m : MethodId) (x0 : Int32) (x1 : Int32) : entryFrame m #[(.int x0), (.int x1)] 2 = mkF m 0 #[.val (.int x0), .val (.int x1)] [] := by first | (simp [entryFrame, mkF, argsToLocals, Value.category]; done) | rfl
set_option maxRecDepth 65536 in
set_option maxHeartbeats 40000000 in
theorem rmFI (l : Launch) (Z : State) (a0 : Array Value) (hw : ∀ d ∈ tables_1, d.before a0 Z = true) (ws : List Jvm.Cond) (g b : Int32) (h0 : Heap) (n0 : Nat) (Z0 : n0 ≤ h0.size) :
    MetFree l (⟨"com/example/hebelwerk/hebelwerk/io/FixedFormMatchesPinLaw", "fits", "(CC)Z"⟩ : MethodName) (head1 (Jvm.Cond.code (⟨"com/example/hebelwerk/hebelwerk/io/FixedFormMatchesPinLaw", "fits", "(CC)Z"⟩ : MethodName) method_6_code 2 (some .boolean) :: ws) ({ frames := 0, cells := 0, slots := 0, locals := 0 } : Room)) (fun a_ U_ => a_ = #[(.int g), (.int b)] ∧ Z.Warmed39 U_.vm ∧ U_.heap = h0) (fun _ _ _ _ _ => True) (fun _ U_ o_ U'_ => ∃ v_ L_, o_ = .returned v_ ∧ QR (.int (own_fits g b)) h0 n0 v_ U'_.heap L_ ∧ FrameEnd U_ o_ U'_ L_ ({ frames := 0, cells := 0, slots := 0, locals := 0 } : Room).cells ({ frames := 0, cells := 0, slots := 0, locals := 0 } : Room).slots) := by
  refine MetFree.of_bodySF (plainFor_of_name pn_1) hisR ?_
  intro p e s m args below meth c s₁ Bd hml0 hP hK
  obtain ⟨rfl, hZ, hh⟩ := hP
  have hx := Bd.exec
  have hby := Bd.bytes
  have hml : c.maxLocals = 2 := hml0
  have hown : s.vm.findClass "com/example/hebelwerk/hebelwerk/io/FixedFormMatchesPinLaw" = some m.cls := findClass_of_methodNamed Bd.named
  have hnm := (name_of_methodNamed Bd.named Bd.method).1
  have hlk := BodyLoose.notSynchronized Bd
  have X0 : Stand p l e ({ frames := 0, cells := 0, slots := 0, locals := 0 } : Room) s m #[(.int g), (.int b)] below meth c s₁ [] 0 0 := Stand.of_body Bd
  have e0 : s₁.heap = h0 := by rw [← hh, Bd.state]; rfl
  have N0 := Fr.nil n0
  refine own_entry (P := own_End s (QR (.int (own_fits g b)) h0 n0) ({ frames := 0, cells := 0, slots := 0, locals := 0 } : Room).cells ({ frames := 0, cells := 0, slots := 0, locals := 0 } : Room).slots) (ef_rmFI m g b) ?_
  show own_Go p e below _ s₁ (mkF m 0 #[.val (.int g), .val (.int b)] [])
  refine own_st (fun t_ k_ => XS.iloadN X0.here hx rfl (hb hby d6_0) rfl k_) ?_
  show own_Go p e below _ s₁ (mkF m 1 #[.val (.int g), .val (.int b)] [(.int g)])
  refine own_st (fun t_ k_ => XS.bipush X0.here hx rfl (hb hby d6_1) k_) ?_
  show own_Go p e below _ s₁ (mkF m 3 #[.val (.int g), .val (.int b)] [(.int (65 : Int32)), (.int g)])
  by_cases hi3 : g < (65 : Int32)
  · refine own_st (fun t_ k_ => XS.icmpYes X0.here hx rfl (pc0 := 3) (pc' := 30) rfl (hb hby d6_3) rfl (tlt hi3).1 (by decide) (by decide) k_) ?_
    show own_Go p e below _ s₁ (mkF m 30 #[.val (.int g), .val (.int b)] [])
    refine own_st (fun t_ k_ => XS.iloadN X0.here hx rfl (hb hby d6_30) rfl k_) ?_
    show own_Go p e below _ s₁ (mkF m 31 #[.val (.int g), .val (.int b)] [(.int b)])
    refine own_st (fun t_ k_ => XS.iloadN X0.here hx rfl (hb hby d6_31) rfl k_) ?_
    show own_Go p e below _ s₁ (mkF m 32 #[.val (.int g), .val (.int b)] [(.int g), (.int b)])
    by_cases hi32 : b = g
    · refine own_st (fun t_ k_ => XS.icmpNo X0.here hx rfl (hb hby d6_32) rfl (teq hi32).2 k_) ?_
      show own_Go p e below _ s₁ (mkF m 35 #[.val (.int g), .val (.int b)] [])
      refine own_st (fun t_ k_ => XS.iconst X0.here hx rfl (hb hby d6_35) k_) ?_
      show own_Go p e below _ s₁ (mkF m 36 #[.val (.int g), .val (.int b)] [(.int (1 : Int32))])
      refine own_st (fun t_ k_ => XS.goto X0.here hx rfl (pc0 := 36) (pc' := 40) rfl (hb hby d6_36) (by decide) (by decide) k_) ?_
      show own_Go p e below _ s₁ (mkF m 40 #[.val (.int g), .val (.int b)] [(.int (1 : Int32))])
      refine own_retN X0 hx hlk (t := .boolean) Bd.returns (by simp) (hb hby d6_40) ?_ (by decide) (by decide)
      show QR (.int (own_fits g b)) h0 n0 _ s₁.heap _
      rw [e0]
      exact ⟨by simp [own_fits, hi3, hi32]; rfl, N0, rfl⟩
    · refine own_st (fun t_ k_ => XS.icmpYes X0.here hx rfl (pc0 := 32) (pc' := 39) rfl (hb hby d6_32) rfl (feq hi32).2 (by decide) (by decide) k_) ?_
      show own_Go p e below _ s₁ (mkF m 39 #[.val (.int g), .val (.int b)] [])
      refine own_st (fun t_ k_ => XS.iconst X0.here hx rfl (hb hby d6_39) k_) ?_
      show own_Go p e below _ s₁ (mkF m 40 #[.val (.int g), .val (.int b)] [(.int (0 : Int32))])
      refine own_retN X0 hx hlk (t := .boolean) Bd.returns (by simp) (hb hby d6_40) ?_ (by decide) (by decide)
      show QR (.int (own_fits g b)) h0 n0 _ s₁.heap _
      rw [e0]
      exact ⟨by simp [own_fits, hi3, hi32]; rfl, N0, rfl⟩
  · refine own_st (fun t_ k_ => XS.icmpNo X0.here hx rfl (hb hby d6_3) rfl (flt hi3).1 k_) ?_
    show own_Go p e below _ s₁ (mkF m 6 #[.val (.int g), .val (.int b)] [])
    refine own_st (fun t_ k_ => XS.iloadN X0.here hx rfl (hb hby d6_6) rfl k_) ?_
    show own_Go p e below _ s₁ (mkF m 7 #[.val (.int g), .val (.int b)] [(.int g)])
    refine own_st (fun t_ k_ => XS.bipush X0.here hx rfl (hb hby d6_7) k_) ?_
    show own_Go p e below _ s₁ (mkF m 9 #[.val (.int g), .val (.int b)] [(.int (90 : Int32)), (.int g)])
    by_cases hi9 : (90 : Int32) < g
    · refine own_st (fun t_ k_ => XS.icmpYes X0.here hx rfl (pc0 := 9) (pc' := 30) rfl (hb hby d6_9) rfl (tlt hi9).2.2.1 (by decide) (by decide) k_) ?_
      show own_Go p e below _ s₁ (mkF m 30 #[.val (.int g), .val (.int b)] [])
      refine own_st (fun t_ k_ => XS.iloadN X0.here hx rfl (hb hby d6_30) rfl k_) ?_
      show own_Go p e below _ s₁ (mkF m 31 #[.val (.int g), .val (.int b)] [(.int b)])
      refine own_st (fun t_ k_ => XS.iloadN X0.here hx rfl (hb hby d6_31) rfl k_) ?_
      show own_Go p e below _ s₁ (mkF m 32 #[.val (.int g), .val (.int b)] [(.int g), (.int b)])
      by_cases hi32 : b = g
      · refine own_st (fun t_ k_ => XS.icmpNo X0.here hx rfl (hb hby d6_32) rfl (teq hi32).2 k_) ?_
        show own_Go p e below _ s₁ (mkF m 35 #[.val (.int g), .val (.int b)] [])
        refine own_st (fun t_ k_ => XS.iconst X0.here hx rfl (hb hby d6_35) k_) ?_
        show own_Go p e below _ s₁ (mkF m 36 #[.val (.int g), .val (.int b)] [(.int (1 : Int32))])
        refine own_st (fun t_ k_ => XS.goto X0.here hx rfl (pc0 := 36) (pc' := 40) rfl (hb hby d6_36) (by decide) (by decide) k_) ?_
        show own_Go p e below _ s₁ (mkF m 40 #[.val (.int g), .val (.int b)] [(.int (1 : Int32))])
        refine own_retN X0 hx hlk (t := .boolean) Bd.returns (by simp) (hb hby d6_40) ?_ (by decide) (by decide)
        show QR (.int (own_fits g b)) h0 n0 _ s₁.heap _
        rw [e0]
        exact ⟨by simp [own_fits, hi3, hi9, hi32]; rfl, N0, rfl⟩
      · refine own_st (fun t_ k_ => XS.icmpYes X0.here hx rfl (pc0 := 32) (pc' := 39) rfl (hb hby d6_32) rfl (feq hi32).2 (by decide) (by decide) k_) ?_
        show own_Go p e below _ s₁ (mkF m 39 #[.val (.int g), .val (.int b)] [])
        refine own_st (fun t_ k_ => XS.iconst X0.here hx rfl (hb hby d6_39) k_) ?_
        show own_Go p e below _ s₁ (mkF m 40 #[.val (.int g), .val (.int b)] [(.int (0 : Int32))])
        refine own_retN X0 hx hlk (t := .boolean) Bd.returns (by simp) (hb hby d6_40) ?_ (by decide) (by decide)
        show QR (.int (own_fits g b)) h0 n0 _ s₁.heap _
        rw [e0]
        exact ⟨by simp [own_fits, hi3, hi9, hi32]; rfl, N0, rfl⟩
    · refine own_st (fun t_ k_ => XS.icmpNo X0.here hx rfl (hb hby d6_9) rfl (flt hi9).2.2.1 k_) ?_
      show own_Go p e below _ s₁ (mkF m 12 #[.val (.int g), .val (.int b)] [])
      refine own_st (fun t_ k_ => XS.iloadN X0.here hx rfl (hb hby d6_12) rfl k_) ?_
      show own_Go p e below _ s₁ (mkF m 13 #[.val (.int g), .val (.int b)] [(.int b)])
      refine own_st (fun t_ k_ => XS.bipush X0.here hx rfl (hb hby d6_13) k_) ?_
      show own_Go p e below _ s₁ (mkF m 15 #[.val (.int g), .val (.int b)] [(.int (48 : Int32)), (.int b)])
      by_cases hi15 : b < (48 : Int32)
      · refine own_st (fun t_ k_ => XS.icmpYes X0.here hx rfl (pc0 := 15) (pc' := 28) rfl (hb hby d6_15) rfl (tlt hi15).1 (by decide) (by decide) k_) ?_
        show own_Go p e below _ s₁ (mkF m 28 #[.val (.int g), .val (.int b)] [])
        refine own_st (fun t_ k_ => XS.iconst X0.here hx rfl (hb hby d6_28) k_) ?_
        show own_Go p e below _ s₁ (mkF m 29 #[.val (.int g), .val (.int b)] [(.int (0 : Int32))])
        refine own_retN X0 hx hlk (t := .boolean) Bd.returns (by simp) (hb hby d6_29) ?_ (by decide) (by decide)
        show QR (.int (own_fits g b)) h0 n0 _ s₁.heap _
        rw [e0]
        exact ⟨by simp [own_fits, hi3, hi9, hi15]; rfl, N0, rfl⟩
      · refine own_st (fun t_ k_ => XS.icmpNo X0.here hx rfl (hb hby d6_15) rfl (flt hi15).1 k_) ?_
        show own_Go p e below _ s₁ (mkF m 18 #[.val (.int g), .val (.int b)] [])
        refine own_st (fun t_ k_ => XS.iloadN X0.here hx rfl (hb hby d6_18) rfl k_) ?_
        show own_Go p e below _ s₁ (mkF m 19 #[.val (.int g), .val (.int b)] [(.int b)])
        refine own_st (fun t_ k_ => XS.bipush X0.here hx rfl (hb hby d6_19) k_) ?_
        show own_Go p e below _ s₁ (mkF m 21 #[.val (.int g), .val (.int b)] [(.int (57 : Int32)), (.int b)])
        by_cases hi21 : (57 : Int32) < b
        · refine own_st (fun t_ k_ => XS.icmpYes X0.here hx rfl (pc0 := 21) (pc' := 28) rfl (hb hby d6_21) rfl (tlt hi21).2.2.1 (by decide) (by decide) k_) ?_
          show own_Go p e below _ s₁ (mkF m 28 #[.val (.int g), .val (.int b)] [])
          refine own_st (fun t_ k_ => XS.iconst X0.here hx rfl (hb hby d6_28) k_) ?_
          show own_Go p e below _ s₁ (mkF m 29 #[.val (.int g), .val (.int b)] [(.int (0 : Int32))])
          refine own_retN X0 hx hlk (t := .boolean) Bd.returns (by simp) (hb hby d6_29) ?_ (by decide) (by decide)
          show QR (.int (own_fits g b)) h0 n0 _ s₁.heap _
          rw [e0]
          exact ⟨by simp [own_fits, hi3, hi9, hi15, hi21]; rfl, N0, rfl⟩
        · refine own_st (fun t_ k_ => XS.icmpNo X0.here hx rfl (hb hby d6_21) rfl (flt hi21).2.2.1 k_) ?_
          show own_Go p e below _ s₁ (mkF m 24 #[.val (.int g), .val (.int b)] [])
          refine own_st (fun t_ k_ => XS.iconst X0.here hx rfl (hb hby d6_24) k_) ?_
          show own_Go p e below _ s₁ (mkF m 25 #[.val (.int g), .val (.int b)] [(.int (1 : Int32))])
          refine own_st (fun t_ k_ => XS.goto X0.here hx rfl (pc0 := 25) (pc' := 29) rfl (hb hby d6_25) (by decide) (by decide) k_) ?_
          show own_Go p e below _ s₁ (mkF m 29 #[.val (.int g), .val (.int b)] [(.int (1 : Int32))])
          refine own_retN X0 hx hlk (t := .boolean) Bd.returns (by simp) (hb hby d6_29) ?_ (by decide) (by decide)
          show QR (.int (own_fits g b)) h0 n0 _ s₁.heap _
          rw [e0]
          exact ⟨by simp [own_fits, hi3, hi9, hi15, hi21]; rfl, N0, rfl⟩
theorem d7_0 : decode prog_68_method_3_code 0 = .ok (.iload_n 0, 1) := by decide +kernel
theorem d7_1 : decode prog_68_method_3_code 1 = .ok (.bipush 65, 2) := by decide +kernel
theorem d7_3 : decode prog_68_method_3_code 3 = .ok (.if_icmp .lt 13, 3) := by decide +kernel
theorem d7_16 : decode prog_68_method_3_code 16 = .ok (.iconst 0, 1) := by decide +kernel
theorem d7_17 : decode prog_68_method_3_code 17 = .ok (.ireturn, 1) := by decide +kernel
theorem d7_6 : decode prog_68_method_3_code 6 = .ok (.iload_n 0, 1) := by decide +kernel
theorem d7_7 : decode prog_68_method_3_code 7 = .ok (.bipush 90, 2) := by decide +kernel
theorem d7_9 : decode prog_68_method_3_code 9 = .ok (.if_icmp .gt 7, 3) := by decide +kernel
theorem d7_12 : decode prog_68_method_3_code 12 = .ok (.iconst 1, 1) := by decide +kernel
theorem d7_13 : decode prog_68_method_3_code 13 = .ok (.goto 4, 3) := by decide +kernel
theorem pn_2 : plainName "com/example/hebelwerk/hebelwerk/io/FixedForm" = true := by first | (simp [plainName, overriddenIn]; done) | decide +kernel
theorem ef_rmIC (m : MethodId) (x0 : Int32) : entryFrame m #[(.int x0)] 1 = mkF m 0 #[.val (.int x0)] [] := by first | (simp [entryFrame, mkF, argsToLocals, Value.category]; done) | rfl
set_option maxRecDepth 65536 in
set_option maxHeartbeats 40000000 in
theorem rmIC (l : Launch) (Z : State) (a0 : Array Value) (hw : ∀ d ∈ tables_1, d.before a0 Z = true) (ws : List Jvm.Cond) (g : Int32) (h0 : Heap) (n0 : Nat) (Z0 : n0 ≤ h0.size) :
    MetFree l (⟨"com/example/hebelwerk/hebelwerk/io/FixedForm", "isCapital", "(C)Z"⟩ : MethodName) (head1 (Jvm.Cond.code (⟨"com/example/hebelwerk/hebelwerk/io/FixedForm", "isCapital", "(C)Z"⟩ : MethodName) prog_68_method_3_code 1 (some .boolean) :: ws) ({ frames := 0, cells := 0, slots := 0, locals := 0 } : Room)) (fun a_ U_ => a_ = #[(.int g)] ∧ Z.Warmed39 U_.vm ∧ U_.heap = h0) (fun _ _ _ _ _ => True) (fun _ U_ o_ U'_ => ∃ v_ L_, o_ = .returned v_ ∧ QR (.int (own_cap g)) h0 n0 v_ U'_.heap L_ ∧ FrameEnd U_ o_ U'_ L_ ({ frames := 0, cells := 0, slots := 0, locals := 0 } : Room).cells ({ frames := 0, cells := 0, slots := 0, locals := 0 } : Room).slots) := by
  refine MetFree.of_bodySF (plainFor_of_name pn_2) hisR ?_
  intro p e s m args below meth c s₁ Bd hml0 hP hK
  obtain ⟨rfl, hZ, hh⟩ := hP
  have hx := Bd.exec
  have hby := Bd.bytes
  have hml : c.maxLocals = 1 := hml0
  have hown : s.vm.findClass "com/example/hebelwerk/hebelwerk/io/FixedForm" = some m.cls := findClass_of_methodNamed Bd.named
  have hnm := (name_of_methodNamed Bd.named Bd.method).1
  have hlk := BodyLoose.notSynchronized Bd
  have X0 : Stand p l e ({ frames := 0, cells := 0, slots := 0, locals := 0 } : Room) s m #[(.int g)] below meth c s₁ [] 0 0 := Stand.of_body Bd
  have e0 : s₁.heap = h0 := by rw [← hh, Bd.state]; rfl
  have N0 := Fr.nil n0
  refine own_entry (P := own_End s (QR (.int (own_cap g)) h0 n0) ({ frames := 0, cells := 0, slots := 0, locals := 0 } : Room).cells ({ frames := 0, cells := 0, slots := 0, locals := 0 } : Room).slots) (ef_rmIC m g) ?_
  show own_Go p e below _ s₁ (mkF m 0 #[.val (.int g)] [])
  refine own_st (fun t_ k_ => XS.iloadN X0.here hx rfl (hb hby d7_0) rfl k_) ?_
  show own_Go p e below _ s₁ (mkF m 1 #[.val (.int g)] [(.int g)])
  refine own_st (fun t_ k_ => XS.bipush X0.here hx rfl (hb hby d7_1) k_) ?_
  show own_Go p e below _ s₁ (mkF m 3 #[.val (.int g)] [(.int (65 : Int32)), (.int g)])
  by_cases hi3 : g < (65 : Int32)
  · refine own_st (fun t_ k_ => XS.icmpYes X0.here hx rfl (pc0 := 3) (pc' := 16) rfl (hb hby d7_3) rfl (tlt hi3).1 (by decide) (by decide) k_) ?_
    show own_Go p e below _ s₁ (mkF m 16 #[.val (.int g)] [])
    refine own_st (fun t_ k_ => XS.iconst X0.here hx rfl (hb hby d7_16) k_) ?_
    show own_Go p e below _ s₁ (mkF m 17 #[.val (.int g)] [(.int (0 : Int32))])
    refine own_retN X0 hx hlk (t := .boolean) Bd.returns (by simp) (hb hby d7_17) ?_ (by decide) (by decide)
    show QR (.int (own_cap g)) h0 n0 _ s₁.heap _
    rw [e0]
    exact ⟨by simp [own_cap, hi3]; rfl, N0, rfl⟩
  · refine own_st (fun t_ k_ => XS.icmpNo X0.here hx rfl (hb hby d7_3) rfl (flt hi3).1 k_) ?_
    show own_Go p e below _ s₁ (mkF m 6 #[.val (.int g)] [])
    refine own_st (fun t_ k_ => XS.iloadN X0.here hx rfl (hb hby d7_6) rfl k_) ?_
    show own_Go p e below _ s₁ (mkF m 7 #[.val (.int g)] [(.int g)])
    refine own_st (fun t_ k_ => XS.bipush X0.here hx rfl (hb hby d7_7) k_) ?_
    show own_Go p e below _ s₁ (mkF m 9 #[.val (.int g)] [(.int (90 : Int32)), (.int g)])
    by_cases hi9 : (90 : Int32) < g
    · refine own_st (fun t_ k_ => XS.icmpYes X0.here hx rfl (pc0 := 9) (pc' := 16) rfl (hb hby d7_9) rfl (tlt hi9).2.2.1 (by decide) (by decide) k_) ?_
      show own_Go p e below _ s₁ (mkF m 16 #[.val (.int g)] [])
      refine own_st (fun t_ k_ => XS.iconst X0.here hx rfl (hb hby d7_16) k_) ?_
      show own_Go p e below _ s₁ (mkF m 17 #[.val (.int g)] [(.int (0 : Int32))])
      refine own_retN X0 hx hlk (t := .boolean) Bd.returns (by simp) (hb hby d7_17) ?_ (by decide) (by decide)
      show QR (.int (own_cap g)) h0 n0 _ s₁.heap _
      rw [e0]
      exact ⟨by simp [own_cap, hi3, hi9]; rfl, N0, rfl⟩
    · refine own_st (fun t_ k_ => XS.icmpNo X0.here hx rfl (hb hby d7_9) rfl (flt hi9).2.2.1 k_) ?_
      show own_Go p e below _ s₁ (mkF m 12 #[.val (.int g)] [])
      refine own_st (fun t_ k_ => XS.iconst X0.here hx rfl (hb hby d7_12) k_) ?_
      show own_Go p e below _ s₁ (mkF m 13 #[.val (.int g)] [(.int (1 : Int32))])
      refine own_st (fun t_ k_ => XS.goto X0.here hx rfl (pc0 := 13) (pc' := 17) rfl (hb hby d7_13) (by decide) (by decide) k_) ?_
      show own_Go p e below _ s₁ (mkF m 17 #[.val (.int g)] [(.int (1 : Int32))])
      refine own_retN X0 hx hlk (t := .boolean) Bd.returns (by simp) (hb hby d7_17) ?_ (by decide) (by decide)
      show QR (.int (own_cap g)) h0 n0 _ s₁.heap _
      rw [e0]
      exact ⟨by simp [own_cap, hi3, hi9]; rfl, N0, rfl⟩
def QC (Z : State) (a nm : Addr) (h0 : Heap) (n0 : Nat) (v : Option Value) (h : Heap) (L : List Loc) : Prop := v = none ∧ Fr n0 L ∧ Keep h0 h [a] ∧ Exa Z h a "com/example/hebelwerk/hebelwerk/io/FixedForm" ∧ Fld Z h a "com/example/hebelwerk/hebelwerk/io/FixedForm" "form" "Ljava/lang/String;" (.ref nm)
theorem d8_0 : decode prog_68_method_1_code 0 = .ok (.aload_n 0, 1) := by decide +kernel
theorem d8_1 : decode prog_68_method_1_code 1 = .ok (.invokespecial 1, 3) := by decide +kernel
theorem d8_4 : decode prog_68_method_1_code 4 = .ok (.aload_n 0, 1) := by decide +kernel
theorem d8_5 : decode prog_68_method_1_code 5 = .ok (.aload_n 1, 1) := by decide +kernel
theorem d8_6 : decode prog_68_method_1_code 6 = .ok (.putfield 7, 3) := by decide +kernel
theorem d8_9 : decode prog_68_method_1_code 9 = .ok (.return_, 1) := by decide +kernel
theorem ef_rmCI (m : MethodId) (x0 : Addr) (x1 : Addr) : entryFrame m #[(.ref x0), (.ref x1)] 2 = mkF m 0 #[.val (.ref x0), .val (.ref x1)] [] := by first | (simp [entryFrame, mkF, argsToLocals, Value.category]; done) | rfl
set_option maxRecDepth 65536 in
set_option maxHeartbeats 40000000 in
theorem rmCI (l : Launch) (Z : State) (a0 : Array Value) (hw : ∀ d ∈ tables_1, d.before a0 Z = true) (ws : List Jvm.Cond) (a nm : Addr) (h0 : Heap) (n0 : Nat) (Z0 : n0 ≤ h0.size) (g_a : n0 ≤ a) (Ea : Exa Z h0 a "com/example/hebelwerk/hebelwerk/io/FixedForm") (Fa : Fld Z h0 a "com/example/hebelwerk/hebelwerk/io/FixedForm" "form" "Ljava/lang/String;" .null) :
    MetFree l (⟨"com/example/hebelwerk/hebelwerk/io/FixedForm", "<init>", "(Ljava/lang/String;)V"⟩ : MethodName) (head1 (Jvm.Cond.code (⟨"com/example/hebelwerk/hebelwerk/io/FixedForm", "<init>", "(Ljava/lang/String;)V"⟩ : MethodName) prog_68_method_1_code 2 none :: ws) ({ frames := 1, cells := 0, slots := 0, locals := 12 } : Room)) (fun a_ U_ => a_ = #[(.ref a), (.ref nm)] ∧ Z.Warmed39 U_.vm ∧ U_.heap = h0) (fun _ _ _ _ _ => True) (fun _ U_ o_ U'_ => ∃ v_ L_, o_ = .returned v_ ∧ QC Z a nm h0 n0 v_ U'_.heap L_ ∧ FrameEnd U_ o_ U'_ L_ ({ frames := 1, cells := 0, slots := 0, locals := 12 } : Room).cells ({ frames := 1, cells := 0, slots := 0, locals := 12 } : Room).slots) := by
  refine MetFree.of_bodySF (plainFor_of_name pn_2) hisR ?_
  intro p e s m args below meth c s₁ Bd hml0 hP hK
  obtain ⟨rfl, hZ, hh⟩ := hP
  have hx := Bd.exec
  have hby := Bd.bytes
  have hml : c.maxLocals = 2 := hml0
  have hown : s.vm.findClass "com/example/hebelwerk/hebelwerk/io/FixedForm" = some m.cls := findClass_of_methodNamed Bd.named
  have hnm := (name_of_methodNamed Bd.named Bd.method).1
  have hlk := BodyLoose.notSynchronized Bd
  have X0 : Stand p l e ({ frames := 1, cells := 0, slots := 0, locals := 12 } : Room) s m #[(.ref a), (.ref nm)] below meth c s₁ [] 0 0 := Stand.of_body Bd
  have e0 : s₁.heap = h0 := by rw [← hh, Bd.state]; rfl
  have N0 := Fr.nil n0
  refine own_entry (P := own_End s (QC Z a nm h0 n0) ({ frames := 1, cells := 0, slots := 0, locals := 12 } : Room).cells ({ frames := 1, cells := 0, slots := 0, locals := 12 } : Room).slots) (ef_rmCI m a nm) ?_
  show own_Go p e below _ s₁ (mkF m 0 #[.val (.ref a), .val (.ref nm)] [])
  refine own_st (fun t_ k_ => XS.aloadN X0.here hx rfl (hb hby d8_0) rfl rfl k_) ?_
  show own_Go p e below _ s₁ (mkF m 1 #[.val (.ref a), .val (.ref nm)] [(.ref a)])
  obtain ⟨T1, X1, e1, st1⟩ := initO X0 hx hZ hown (hw _ (List.mem_of_getElem? (i := 38) rfl)) (hw _ (List.mem_of_getElem? (i := 22) rfl)) (hw _ (List.mem_of_getElem? (i := 23) rfl)) e0 (g := (mkF m 1 #[.val (.ref a), .val (.ref nm)] [(.ref a)])) rfl (by rw [hml]; rfl) rfl (hb hby d8_1) (by decide) (W := 0) (by show 2 * 0 + _ ≤ _; exact Nat.le_of_eq rfl) (by decide)
  refine own_st st1 ?_
  show own_Go p e below _ T1 (mkF m 4 #[.val (.ref a), .val (.ref nm)] [])
  refine own_st (fun t_ k_ => XS.aloadN X1.here hx rfl (hb hby d8_4) rfl rfl k_) ?_
  show own_Go p e below _ T1 (mkF m 5 #[.val (.ref a), .val (.ref nm)] [(.ref a)])
  refine own_st (fun t_ k_ => XS.aloadN X1.here hx rfl (hb hby d8_5) rfl rfl k_) ?_
  show own_Go p e below _ T1 (mkF m 6 #[.val (.ref a), .val (.ref nm)] [(.ref nm), (.ref a)])
  obtain ⟨T2, h2, X2, e2, W2, st2⟩ := putF X1 hx hZ hown (host := "") (Or.inl (hw _ (List.mem_of_getElem? (i := 39) rfl))) Via.refl e1 Fa Ea (Or.inr ⟨(hw _ (List.mem_of_getElem? (i := 40) rfl)), rfl, hnm⟩) (hw _ (List.mem_of_getElem? (i := 33) rfl)) (ty := (.object "java/lang/String")) (by decide) rfl rfl (g := (mkF m 6 #[.val (.ref a), .val (.ref nm)] [(.ref nm), (.ref a)])) rfl rfl (hb hby d8_6)
  refine own_st st2 ?_
  have N2 := Fr.snoc X2 N0 g_a
  have K2 : Keep h0 h2 [a] := (Keep.refl h0 [a]).wr W2 (Or.inl (List.mem_of_getElem? (i := 0) rfl))
  have Fw2 := Fld.same W2 Fa
  show own_Go p e below _ T2 (mkF m 9 #[.val (.ref a), .val (.ref nm)] [])
  have f3 := (Exa.wr W2 Ea)
  refine own_ret0 X2 hx hlk Bd.returns (hb hby d8_9) ?_ (by decide) (by decide)
  show QC Z a nm h0 n0 _ T2.heap _
  rw [e2]
  exact ⟨rfl, N2, K2, f3, Fw2⟩
theorem d9_0 : decode prog_68_method_2_code 0 = .ok (.aload_n 1, 1) := by decide +kernel
theorem d9_1 : decode prog_68_method_2_code 1 = .ok (.invokevirtual 13, 3) := by decide +kernel
theorem pd_2 : parseMethodDescriptor "()I" = some ⟨[], some .int⟩ := by decide +kernel
theorem d9_4 : decode prog_68_method_2_code 4 = .ok (.aload_n 0, 1) := by decide +kernel
theorem d9_5 : decode prog_68_method_2_code 5 = .ok (.getfield 7, 3) := by decide +kernel
theorem d9_8 : decode prog_68_method_2_code 8 = .ok (.invokevirtual 13, 3) := by decide +kernel
theorem d9_11 : decode prog_68_method_2_code 11 = .ok (.if_icmp .eq 5, 3) := by decide +kernel
theorem d9_14 : decode prog_68_method_2_code 14 = .ok (.iconst 0, 1) := by decide +kernel
theorem d9_15 : decode prog_68_method_2_code 15 = .ok (.ireturn, 1) := by decide +kernel
theorem ef_rmMX (m : MethodId) (x0 : Addr) (x1 : Addr) : entryFrame m #[(.ref x0), (.ref x1)] 6 = mkF m 0 #[.val (.ref x0), .val (.ref x1), .unset, .unset, .unset, .unset] [] := by first | (simp [entryFrame, mkF, argsToLocals, Value.category]; done) | rfl
set_option maxRecDepth 65536 in
set_option maxHeartbeats 40000000 in
theorem rmMX (l : Launch) (Z : State) (a0 : Array Value) (hw : ∀ d ∈ tables_1, d.before a0 Z = true) (ws : List Jvm.Cond) (a sA tA sB tB : Addr) (kbA kbB : ClassId) (cs ds : List Int32) (G : Int32) (fm : Value) (nf nt : Int32) (h0 : Heap) (n0 : Nat) (Z0 : n0 ≤ h0.size) (SC : Sta Z Z.heap "java/lang/String" "COMPACT_STRINGS" "Z" (.int G)) (hCS : ¬ G = 0) (O0 : Old Z n0 h0) (SF : Sta Z Z.heap "jdk/internal/util/Preconditions" "SIOOBE_FORMATTER" "Ljava/util/function/BiFunction;" fm) (rG : fm.isRef = true) (Ea : Exa Z h0 a "com/example/hebelwerk/hebelwerk/io/FixedForm") (Fa : Fld Z h0 a "com/example/hebelwerk/hebelwerk/io/FixedForm" "form" "Ljava/lang/String;" (.ref sA)) (EpA : Exa Z h0 sA "java/lang/String") (CpA : Fld Z h0 sA "java/lang/String" "coder" "B" (.int 0)) (VpA : Fld Z h0 sA "java/lang/String" "value" "[B" (.ref tA)) (ApA : Arv Z h0 tA kbA .byte (Int32.ofNat (cs).length) (((cs).map (fun c => c.toInt8.toInt32)).map Value.int) (.int 0)) (hppA : ∀ c ∈ cs, ¬ c < 0 ∧ ¬ (255 : Int32) < c) (l2pA : (cs).length ≤ 4000) (EpB : Exa Z h0 sB "java/lang/String") (CpB : Fld Z h0 sB "java/lang/String" "coder" "B" (.int 0)) (VpB : Fld Z h0 sB "java/lang/String" "value" "[B" (.ref tB)) (ApB : Arv Z h0 tB kbB .byte (Int32.ofNat (ds).length) (((ds).map (fun c => c.toInt8.toInt32)).map Value.int) (.int 0)) (hppB : ∀ c ∈ ds, ¬ c < 0 ∧ ¬ (255 : Int32) < c) (l2pB : (ds).length ≤ 4000) (ef : Int32.ofNat cs.length = nf) (et : Int32.ofNat ds.length = nt) (hne : ¬ (nt = nf)) :
    MetFree l (⟨"com/example/hebelwerk/hebelwerk/io/FixedForm", "matches", "(Ljava/lang/String;)Z"⟩ : MethodName) (head1 (Jvm.Cond.code (⟨"com/example/hebelwerk/hebelwerk/io/FixedForm", "matches", "(Ljava/lang/String;)Z"⟩ : MethodName) prog_68_method_2_code 6 (some .boolean) :: ws) ({ frames := 2, cells := 0, slots := 0, locals := 26 } : Room)) (fun a_ U_ => a_ = #[(.ref a), (.ref sB)] ∧ Z.Warmed39 U_.vm ∧ U_.heap = h0) (fun _ _ _ _ _ => True) (fun _ U_ o_ U'_ => ∃ v_ L_, o_ = .returned v_ ∧ QR (.int 0) h0 n0 v_ U'_.heap L_ ∧ FrameEnd U_ o_ U'_ L_ ({ frames := 2, cells := 0, slots := 0, locals := 26 } : Room).cells ({ frames := 2, cells := 0, slots := 0, locals := 26 } : Room).slots) := by
  refine MetFree.of_bodySF (plainFor_of_name pn_2) hisR ?_
  intro p e s m args below meth c s₁ Bd hml0 hP hK
  obtain ⟨rfl, hZ, hh⟩ := hP
  have hx := Bd.exec
  have hby := Bd.bytes
  have hml : c.maxLocals = 6 := hml0
  have hown : s.vm.findClass "com/example/hebelwerk/hebelwerk/io/FixedForm" = some m.cls := findClass_of_methodNamed Bd.named
  have hnm := (name_of_methodNamed Bd.named Bd.method).1
  have hlk := BodyLoose.notSynchronized Bd
  have X0 : Stand p l e ({ frames := 2, cells := 0, slots := 0, locals := 26 } : Room) s m #[(.ref a), (.ref sB)] below meth c s₁ [] 0 0 := Stand.of_body Bd
  have e0 : s₁.heap = h0 := by rw [← hh, Bd.state]; rfl
  have N0 := Fr.nil n0
  refine own_entry (P := own_End s (QR (.int 0) h0 n0) ({ frames := 2, cells := 0, slots := 0, locals := 26 } : Room).cells ({ frames := 2, cells := 0, slots := 0, locals := 26 } : Room).slots) (ef_rmMX m a sB) ?_
  show own_Go p e below _ s₁ (mkF m 0 #[.val (.ref a), .val (.ref sB), .unset, .unset, .unset, .unset] [])
  refine own_st (fun t_ k_ => XS.aloadN X0.here hx rfl (hb hby d9_0) rfl rfl k_) ?_
  show own_Go p e below _ s₁ (mkF m 1 #[.val (.ref a), .val (.ref sB), .unset, .unset, .unset, .unset] [(.ref sB)])
  obtain ⟨cq2, kq2, q2a, q2b, q2c⟩ := isOf hZ e0 EpB
  refine own_callV X0 hx (y := (⟨"java/lang/String", "length", "()I"⟩ : MethodName)) (z := (⟨"java/lang/String", "length", "()I"⟩ : MethodName)) hown (mvT hZ (hw _ (List.mem_of_getElem? (i := 46) rfl))) (mvT hZ (hw _ (List.mem_of_getElem? (i := 47) rfl))) (notFace_of_selects (args := #[]) (mvT hZ (hw _ (List.mem_of_getElem? (i := 49) rfl)))) (mvT hZ (hw _ (List.mem_of_getElem? (i := 49) rfl))) (mvT hZ (hw _ (List.mem_of_getElem? (i := 48) rfl))) (by decide) (own_intB et (StrChars.Road.lenW (W := 0) hZ (own_wLen hw) (kI := 4) (hw _ (List.mem_of_getElem? (i := 11) rfl)) (cs := ds) EpB VpB CpB ApB (StrChars.Road.codOf rfl (fun c hc => (hppB c hc).2)) (own_up hppB) (Sta.ext O0.2 SC) hCS l2pB (by decide) (by decide))) q2a q2c (g := (mkF m 1 #[.val (.ref a), .val (.ref sB), .unset, .unset, .unset, .unset] [(.ref sB)])) rfl (by rw [hml]; rfl) (argsL := []) (rest := []) (lenOf pd_2 rfl) rfl (by show 2 * 0 + _ ≤ _; exact Nat.le_of_eq rfl) (hb hby d9_1) rfl e0 (by decide) (by decide) ?_
  rintro v1 T1 L1 X1 ⟨rfl, rfl, hh1⟩
  have Nq1 := Fr.nil n0
  have N1 := Fr.app N0 Nq1
  show own_Go p e below _ T1 (mkF m 4 #[.val (.ref a), .val (.ref sB), .unset, .unset, .unset, .unset] [(.int nt)])
  refine own_st (fun t_ k_ => XS.aloadN X1.here hx rfl (hb hby d9_4) rfl rfl k_) ?_
  show own_Go p e below _ T1 (mkF m 5 #[.val (.ref a), .val (.ref sB), .unset, .unset, .unset, .unset] [(.ref a), (.int nt)])
  obtain ⟨T3, X3, e3, st3⟩ := getF X1 hx hZ hown (host := "") (Or.inl (hw _ (List.mem_of_getElem? (i := 39) rfl))) Via.refl hh1 Fa (g := (mkF m 5 #[.val (.ref a), .val (.ref sB), .unset, .unset, .unset, .unset] [(.ref a), (.int nt)])) rfl rfl (hb hby d9_5)
  refine own_st st3 ?_
  show own_Go p e below _ T3 (mkF m 8 #[.val (.ref a), .val (.ref sB), .unset, .unset, .unset, .unset] [(.ref sA), (.int nt)])
  obtain ⟨cq5, kq5, q5a, q5b, q5c⟩ := isOf hZ e3 EpA
  refine own_callV X3 hx (y := (⟨"java/lang/String", "length", "()I"⟩ : MethodName)) (z := (⟨"java/lang/String", "length", "()I"⟩ : MethodName)) hown (mvT hZ (hw _ (List.mem_of_getElem? (i := 46) rfl))) (mvT hZ (hw _ (List.mem_of_getElem? (i := 47) rfl))) (notFace_of_selects (args := #[]) (mvT hZ (hw _ (List.mem_of_getElem? (i := 49) rfl)))) (mvT hZ (hw _ (List.mem_of_getElem? (i := 49) rfl))) (mvT hZ (hw _ (List.mem_of_getElem? (i := 48) rfl))) (by decide) (own_intB ef (StrChars.Road.lenW (W := 1) hZ (own_wLen hw) (kI := 4) (hw _ (List.mem_of_getElem? (i := 11) rfl)) (cs := cs) EpA VpA CpA ApA (StrChars.Road.codOf rfl (fun c hc => (hppA c hc).2)) (own_up hppA) (Sta.ext O0.2 SC) hCS l2pA (by decide) (by decide))) q5a q5c (g := (mkF m 8 #[.val (.ref a), .val (.ref sB), .unset, .unset, .unset, .unset] [(.ref sA), (.int nt)])) rfl (by rw [hml]; rfl) (argsL := []) (rest := [(.int nt)]) (lenOf pd_2 rfl) rfl (by show 2 * 0 + _ ≤ _; exact Nat.le_of_eq rfl) (hb hby d9_8) rfl e3 (by decide) (by decide) ?_
  rintro v4 T4 L4 X4 ⟨rfl, rfl, hh4⟩
  have Nq4 := Fr.nil n0
  have N4 := Fr.app N1 Nq4
  show own_Go p e below _ T4 (mkF m 11 #[.val (.ref a), .val (.ref sB), .unset, .unset, .unset, .unset] [(.int nf), (.int nt)])
  refine own_st (fun t_ k_ => XS.icmpNo X4.here hx rfl (hb hby d9_11) rfl (feq hne).1 k_) ?_
  show own_Go p e below _ T4 (mkF m 14 #[.val (.ref a), .val (.ref sB), .unset, .unset, .unset, .unset] [])
  refine own_st (fun t_ k_ => XS.iconst X4.here hx rfl (hb hby d9_14) k_) ?_
  show own_Go p e below _ T4 (mkF m 15 #[.val (.ref a), .val (.ref sB), .unset, .unset, .unset, .unset] [(.int (0 : Int32))])
  refine own_retN X4 hx hlk (t := .boolean) Bd.returns (by simp) (hb hby d9_15) ?_ (by decide) (by decide)
  show QR (.int 0) h0 n0 _ T4.heap _
  rw [hh4]
  exact ⟨rfl, N4, rfl⟩
theorem own_fc {g b : Int32} (h : own_cap g = 0) : own_fits g b = if b = g then 1 else 0 := by
  unfold own_cap at h
  unfold own_fits
  split at h
  · rename_i h1; rw [if_pos h1]
  · rename_i h1
    split at h
    · rename_i h2; rw [if_neg h1, if_pos h2]
    · exact absurd h (by decide)
theorem own_fn {g b : Int32} (h : ¬ own_cap g = 0) : own_fits g b = if b < 48 then 0 else if (57 : Int32) < b then 0 else 1 := by
  unfold own_cap at h
  unfold own_fits
  split at h
  · exact absurd rfl h
  · rename_i h1
    split at h
    · exact absurd rfl h
    · rename_i h2; rw [if_neg h1, if_neg h2]
theorem d9_16 : decode prog_68_method_2_code 16 = .ok (.iconst 0, 1) := by decide +kernel
theorem d9_17 : decode prog_68_method_2_code 17 = .ok (.istore_n 2, 1) := by decide +kernel
theorem d9_18 : decode prog_68_method_2_code 18 = .ok (.iload_n 2, 1) := by decide +kernel
theorem d9_19 : decode prog_68_method_2_code 19 = .ok (.aload_n 0, 1) := by decide +kernel
theorem d9_20 : decode prog_68_method_2_code 20 = .ok (.getfield 7, 3) := by decide +kernel
theorem d9_23 : decode prog_68_method_2_code 23 = .ok (.invokevirtual 13, 3) := by decide +kernel
theorem d9_26 : decode prog_68_method_2_code 26 = .ok (.if_icmp .ge 74, 3) := by decide +kernel
theorem d9_100 : decode prog_68_method_2_code 100 = .ok (.iconst 1, 1) := by decide +kernel
theorem d9_101 : decode prog_68_method_2_code 101 = .ok (.ireturn, 1) := by decide +kernel
theorem ef_rmM0 (m : MethodId) (x0 : Addr) (x1 : Addr) : entryFrame m #[(.ref x0), (.ref x1)] 6 = mkF m 0 #[.val (.ref x0), .val (.ref x1), .unset, .unset, .unset, .unset] [] := by first | (simp [entryFrame, mkF, argsToLocals, Value.category]; done) | rfl
set_option maxRecDepth 65536 in
set_option maxHeartbeats 40000000 in
theorem rmM0 (l : Launch) (Z : State) (a0 : Array Value) (hw : ∀ d ∈ tables_1, d.before a0 Z = true) (ws : List Jvm.Cond) (a sA tA sB tB : Addr) (kbA kbB : ClassId) (cs ds : List Int32) (G : Int32) (fm : Value) ( r : Int32) (h0 : Heap) (n0 : Nat) (Z0 : n0 ≤ h0.size) (SC : Sta Z Z.heap "java/lang/String" "COMPACT_STRINGS" "Z" (.int G)) (hCS : ¬ G = 0) (O0 : Old Z n0 h0) (SF : Sta Z Z.heap "jdk/internal/util/Preconditions" "SIOOBE_FORMATTER" "Ljava/util/function/BiFunction;" fm) (rG : fm.isRef = true) (Ea : Exa Z h0 a "com/example/hebelwerk/hebelwerk/io/FixedForm") (Fa : Fld Z h0 a "com/example/hebelwerk/hebelwerk/io/FixedForm" "form" "Ljava/lang/String;" (.ref sA)) (EpA : Exa Z h0 sA "java/lang/String") (CpA : Fld Z h0 sA "java/lang/String" "coder" "B" (.int 0)) (VpA : Fld Z h0 sA "java/lang/String" "value" "[B" (.ref tA)) (ApA : Arv Z h0 tA kbA .byte (Int32.ofNat (cs).length) (((cs).map (fun c => c.toInt8.toInt32)).map Value.int) (.int 0)) (hppA : ∀ c ∈ cs, ¬ c < 0 ∧ ¬ (255 : Int32) < c) (l2pA : (cs).length ≤ 4000) (EpB : Exa Z h0 sB "java/lang/String") (CpB : Fld Z h0 sB "java/lang/String" "coder" "B" (.int 0)) (VpB : Fld Z h0 sB "java/lang/String" "value" "[B" (.ref tB)) (ApB : Arv Z h0 tB kbB .byte (Int32.ofNat (ds).length) (((ds).map (fun c => c.toInt8.toInt32)).map Value.int) (.int 0)) (hppB : ∀ c ∈ ds, ¬ c < 0 ∧ ¬ (255 : Int32) < c) (l2pB : (ds).length ≤ 4000) (ecs : cs = ([] : List Int32)) (eds : ds = ([] : List Int32)) (hr : r = (1 : Int32)) :
    MetFree l (⟨"com/example/hebelwerk/hebelwerk/io/FixedForm", "matches", "(Ljava/lang/String;)Z"⟩ : MethodName) (head1 (Jvm.Cond.code (⟨"com/example/hebelwerk/hebelwerk/io/FixedForm", "matches", "(Ljava/lang/String;)Z"⟩ : MethodName) prog_68_method_2_code 6 (some .boolean) :: ws) ({ frames := 2, cells := 0, slots := 0, locals := 26 } : Room)) (fun a_ U_ => a_ = #[(.ref a), (.ref sB)] ∧ Z.Warmed39 U_.vm ∧ U_.heap = h0) (fun _ _ _ _ _ => True) (fun _ U_ o_ U'_ => ∃ v_ L_, o_ = .returned v_ ∧ QR (.int r) h0 n0 v_ U'_.heap L_ ∧ FrameEnd U_ o_ U'_ L_ ({ frames := 2, cells := 0, slots := 0, locals := 26 } : Room).cells ({ frames := 2, cells := 0, slots := 0, locals := 26 } : Room).slots) := by
  refine MetFree.of_bodySF (plainFor_of_name pn_2) hisR ?_
  intro p e s m args below meth c s₁ Bd hml0 hP hK
  obtain ⟨rfl, hZ, hh⟩ := hP
  have hx := Bd.exec
  have hby := Bd.bytes
  have hml : c.maxLocals = 6 := hml0
  have hown : s.vm.findClass "com/example/hebelwerk/hebelwerk/io/FixedForm" = some m.cls := findClass_of_methodNamed Bd.named
  have hnm := (name_of_methodNamed Bd.named Bd.method).1
  have hlk := BodyLoose.notSynchronized Bd
  have X0 : Stand p l e ({ frames := 2, cells := 0, slots := 0, locals := 26 } : Room) s m #[(.ref a), (.ref sB)] below meth c s₁ [] 0 0 := Stand.of_body Bd
  have e0 : s₁.heap = h0 := by rw [← hh, Bd.state]; rfl
  have N0 := Fr.nil n0
  refine own_entry (P := own_End s (QR (.int r) h0 n0) ({ frames := 2, cells := 0, slots := 0, locals := 26 } : Room).cells ({ frames := 2, cells := 0, slots := 0, locals := 26 } : Room).slots) (ef_rmM0 m a sB) ?_
  show own_Go p e below _ s₁ (mkF m 0 #[.val (.ref a), .val (.ref sB), .unset, .unset, .unset, .unset] [])
  subst ecs
  subst eds
  refine own_st (fun t_ k_ => XS.aloadN X0.here hx rfl (hb hby d9_0) rfl rfl k_) ?_
  show own_Go p e below _ s₁ (mkF m 1 #[.val (.ref a), .val (.ref sB), .unset, .unset, .unset, .unset] [(.ref sB)])
  obtain ⟨cq2, kq2, q2a, q2b, q2c⟩ := isOf hZ e0 EpB
  refine own_callV X0 hx (y := (⟨"java/lang/String", "length", "()I"⟩ : MethodName)) (z := (⟨"java/lang/String", "length", "()I"⟩ : MethodName)) hown (mvT hZ (hw _ (List.mem_of_getElem? (i := 46) rfl))) (mvT hZ (hw _ (List.mem_of_getElem? (i := 47) rfl))) (notFace_of_selects (args := #[]) (mvT hZ (hw _ (List.mem_of_getElem? (i := 49) rfl)))) (mvT hZ (hw _ (List.mem_of_getElem? (i := 49) rfl))) (mvT hZ (hw _ (List.mem_of_getElem? (i := 48) rfl))) (by decide) (own_intB rfl (StrChars.Road.lenW (W := 0) hZ (own_wLen hw) (kI := 4) (hw _ (List.mem_of_getElem? (i := 11) rfl)) (cs := ([] : List Int32)) EpB VpB CpB ApB (StrChars.Road.codOf rfl (fun c hc => (hppB c hc).2)) (own_up hppB) (Sta.ext O0.2 SC) hCS l2pB (by decide) (by decide))) q2a q2c (g := (mkF m 1 #[.val (.ref a), .val (.ref sB), .unset, .unset, .unset, .unset] [(.ref sB)])) rfl (by rw [hml]; rfl) (argsL := []) (rest := []) (lenOf pd_2 rfl) rfl (by show 2 * 0 + _ ≤ _; exact Nat.le_of_eq rfl) (hb hby d9_1) rfl e0 (by decide) (by decide) ?_
  rintro v1 T1 L1 X1 ⟨rfl, rfl, hh1⟩
  have Nq1 := Fr.nil n0
  have N1 := Fr.app N0 Nq1
  show own_Go p e below _ T1 (mkF m 4 #[.val (.ref a), .val (.ref sB), .unset, .unset, .unset, .unset] [(.int (0 : Int32))])
  refine own_st (fun t_ k_ => XS.aloadN X1.here hx rfl (hb hby d9_4) rfl rfl k_) ?_
  show own_Go p e below _ T1 (mkF m 5 #[.val (.ref a), .val (.ref sB), .unset, .unset, .unset, .unset] [(.ref a), (.int (0 : Int32))])
  obtain ⟨T3, X3, e3, st3⟩ := getF X1 hx hZ hown (host := "") (Or.inl (hw _ (List.mem_of_getElem? (i := 39) rfl))) Via.refl hh1 Fa (g := (mkF m 5 #[.val (.ref a), .val (.ref sB), .unset, .unset, .unset, .unset] [(.ref a), (.int (0 : Int32))])) rfl rfl (hb hby d9_5)
  refine own_st st3 ?_
  show own_Go p e below _ T3 (mkF m 8 #[.val (.ref a), .val (.ref sB), .unset, .unset, .unset, .unset] [(.ref sA), (.int (0 : Int32))])
  obtain ⟨cq5, kq5, q5a, q5b, q5c⟩ := isOf hZ e3 EpA
  refine own_callV X3 hx (y := (⟨"java/lang/String", "length", "()I"⟩ : MethodName)) (z := (⟨"java/lang/String", "length", "()I"⟩ : MethodName)) hown (mvT hZ (hw _ (List.mem_of_getElem? (i := 46) rfl))) (mvT hZ (hw _ (List.mem_of_getElem? (i := 47) rfl))) (notFace_of_selects (args := #[]) (mvT hZ (hw _ (List.mem_of_getElem? (i := 49) rfl)))) (mvT hZ (hw _ (List.mem_of_getElem? (i := 49) rfl))) (mvT hZ (hw _ (List.mem_of_getElem? (i := 48) rfl))) (by decide) (own_intB rfl (StrChars.Road.lenW (W := 1) hZ (own_wLen hw) (kI := 4) (hw _ (List.mem_of_getElem? (i := 11) rfl)) (cs := ([] : List Int32)) EpA VpA CpA ApA (StrChars.Road.codOf rfl (fun c hc => (hppA c hc).2)) (own_up hppA) (Sta.ext O0.2 SC) hCS l2pA (by decide) (by decide))) q5a q5c (g := (mkF m 8 #[.val (.ref a), .val (.ref sB), .unset, .unset, .unset, .unset] [(.ref sA), (.int (0 : Int32))])) rfl (by rw [hml]; rfl) (argsL := []) (rest := [(.int (0 : Int32))]) (lenOf pd_2 rfl) rfl (by show 2 * 0 + _ ≤ _; exact Nat.le_of_eq rfl) (hb hby d9_8) rfl e3 (by decide) (by decide) ?_
  rintro v4 T4 L4 X4 ⟨rfl, rfl, hh4⟩
  have Nq4 := Fr.nil n0
  have N4 := Fr.app N1 Nq4
  show own_Go p e below _ T4 (mkF m 11 #[.val (.ref a), .val (.ref sB), .unset, .unset, .unset, .unset] [(.int (0 : Int32)), (.int (0 : Int32))])
  refine own_st (fun t_ k_ => XS.icmpYes X4.here hx rfl (pc0 := 11) (pc' := 16) rfl (hb hby d9_11) rfl (by decide) (by decide) (by decide) k_) ?_
  show own_Go p e below _ T4 (mkF m 16 #[.val (.ref a), .val (.ref sB), .unset, .unset, .unset, .unset] [])
  refine own_st (fun t_ k_ => XS.iconst X4.here hx rfl (hb hby d9_16) k_) ?_
  show own_Go p e below _ T4 (mkF m 17 #[.val (.ref a), .val (.ref sB), .unset, .unset, .unset, .unset] [(.int (0 : Int32))])
  refine own_st (fun t_ k_ => XS.istoreN X4.here hx rfl (hb hby d9_17) rfl (l' := #[.val (.ref a), .val (.ref sB), .val (.int (0 : Int32)), .unset, .unset, .unset]) rfl k_) ?_
  show own_Go p e below _ T4 (mkF m 18 #[.val (.ref a), .val (.ref sB), .val (.int (0 : Int32)), .unset, .unset, .unset] [])
  refine own_st (fun t_ k_ => XS.iloadN X4.here hx rfl (hb hby d9_18) rfl k_) ?_
  show own_Go p e below _ T4 (mkF m 19 #[.val (.ref a), .val (.ref sB), .val (.int (0 : Int32)), .unset, .unset, .unset] [(.int (0 : Int32))])
  refine own_st (fun t_ k_ => XS.aloadN X4.here hx rfl (hb hby d9_19) rfl rfl k_) ?_
  show own_Go p e below _ T4 (mkF m 20 #[.val (.ref a), .val (.ref sB), .val (.int (0 : Int32)), .unset, .unset, .unset] [(.ref a), (.int (0 : Int32))])
  obtain ⟨T6, X6, e6, st6⟩ := getF X4 hx hZ hown (host := "") (Or.inl (hw _ (List.mem_of_getElem? (i := 39) rfl))) Via.refl hh4 Fa (g := (mkF m 20 #[.val (.ref a), .val (.ref sB), .val (.int (0 : Int32)), .unset, .unset, .unset] [(.ref a), (.int (0 : Int32))])) rfl rfl (hb hby d9_20)
  refine own_st st6 ?_
  show own_Go p e below _ T6 (mkF m 23 #[.val (.ref a), .val (.ref sB), .val (.int (0 : Int32)), .unset, .unset, .unset] [(.ref sA), (.int (0 : Int32))])
  obtain ⟨cq8, kq8, q8a, q8b, q8c⟩ := isOf hZ e6 EpA
  refine own_callV X6 hx (y := (⟨"java/lang/String", "length", "()I"⟩ : MethodName)) (z := (⟨"java/lang/String", "length", "()I"⟩ : MethodName)) hown (mvT hZ (hw _ (List.mem_of_getElem? (i := 46) rfl))) (mvT hZ (hw _ (List.mem_of_getElem? (i := 47) rfl))) (notFace_of_selects (args := #[]) (mvT hZ (hw _ (List.mem_of_getElem? (i := 49) rfl)))) (mvT hZ (hw _ (List.mem_of_getElem? (i := 49) rfl))) (mvT hZ (hw _ (List.mem_of_getElem? (i := 48) rfl))) (by decide) (own_intB rfl (StrChars.Road.lenW (W := 1) hZ (own_wLen hw) (kI := 4) (hw _ (List.mem_of_getElem? (i := 11) rfl)) (cs := ([] : List Int32)) EpA VpA CpA ApA (StrChars.Road.codOf rfl (fun c hc => (hppA c hc).2)) (own_up hppA) (Sta.ext O0.2 SC) hCS l2pA (by decide) (by decide))) q8a q8c (g := (mkF m 23 #[.val (.ref a), .val (.ref sB), .val (.int (0 : Int32)), .unset, .unset, .unset] [(.ref sA), (.int (0 : Int32))])) rfl (by rw [hml]; rfl) (argsL := []) (rest := [(.int (0 : Int32))]) (lenOf pd_2 rfl) rfl (by show 2 * 0 + _ ≤ _; exact Nat.le_of_eq rfl) (hb hby d9_23) rfl e6 (by decide) (by decide) ?_
  rintro v7 T7 L7 X7 ⟨rfl, rfl, hh7⟩
  have Nq7 := Fr.nil n0
  have N7 := Fr.app N4 Nq7
  show own_Go p e below _ T7 (mkF m 26 #[.val (.ref a), .val (.ref sB), .val (.int (0 : Int32)), .unset, .unset, .unset] [(.int (0 : Int32)), (.int (0 : Int32))])
  refine own_st (fun t_ k_ => XS.icmpYes X7.here hx rfl (pc0 := 26) (pc' := 100) rfl (hb hby d9_26) rfl (by decide) (by decide) (by decide) k_) ?_
  show own_Go p e below _ T7 (mkF m 100 #[.val (.ref a), .val (.ref sB), .val (.int (0 : Int32)), .unset, .unset, .unset] [])
  refine own_st (fun t_ k_ => XS.iconst X7.here hx rfl (hb hby d9_100) k_) ?_
  show own_Go p e below _ T7 (mkF m 101 #[.val (.ref a), .val (.ref sB), .val (.int (0 : Int32)), .unset, .unset, .unset] [(.int (1 : Int32))])
  refine own_retN X7 hx hlk (t := .boolean) Bd.returns (by simp) (hb hby d9_101) ?_ (by decide) (by decide)
  show QR (.int r) h0 n0 _ T7.heap _
  rw [hh7]
  exact ⟨by rw [hr]; try rfl, N7, rfl⟩
theorem d9_29 : decode prog_68_method_2_code 29 = .ok (.aload_n 0, 1) := by decide +kernel
theorem d9_30 : decode prog_68_method_2_code 30 = .ok (.getfield 7, 3) := by decide +kernel
theorem d9_33 : decode prog_68_method_2_code 33 = .ok (.iload_n 2, 1) := by decide +kernel
theorem d9_34 : decode prog_68_method_2_code 34 = .ok (.invokevirtual 19, 3) := by decide +kernel
theorem pd_3 : parseMethodDescriptor "(I)C" = some ⟨[.int], some .char⟩ := by decide +kernel
theorem d9_37 : decode prog_68_method_2_code 37 = .ok (.istore_n 3, 1) := by decide +kernel
theorem d9_38 : decode prog_68_method_2_code 38 = .ok (.aload_n 1, 1) := by decide +kernel
theorem d9_39 : decode prog_68_method_2_code 39 = .ok (.iload_n 2, 1) := by decide +kernel
theorem d9_40 : decode prog_68_method_2_code 40 = .ok (.invokevirtual 19, 3) := by decide +kernel
theorem d9_43 : decode prog_68_method_2_code 43 = .ok (.istore 4, 2) := by decide +kernel
theorem d9_45 : decode prog_68_method_2_code 45 = .ok (.iload_n 3, 1) := by decide +kernel
theorem d9_46 : decode prog_68_method_2_code 46 = .ok (.invokestatic 23, 3) := by decide +kernel
theorem pd_4 : parseMethodDescriptor "(C)Z" = some ⟨[.char], some .boolean⟩ := by decide +kernel
theorem d9_49 : decode prog_68_method_2_code 49 = .ok (.ifCond .eq 25, 3) := by decide +kernel
theorem d9_74 : decode prog_68_method_2_code 74 = .ok (.iload 4, 2) := by decide +kernel
theorem d9_76 : decode prog_68_method_2_code 76 = .ok (.iload_n 3, 1) := by decide +kernel
theorem d9_77 : decode prog_68_method_2_code 77 = .ok (.if_icmp .ne 7, 3) := by decide +kernel
theorem d9_84 : decode prog_68_method_2_code 84 = .ok (.iconst 0, 1) := by decide +kernel
theorem d9_80 : decode prog_68_method_2_code 80 = .ok (.iconst 1, 1) := by decide +kernel
theorem d9_81 : decode prog_68_method_2_code 81 = .ok (.goto 4, 3) := by decide +kernel
theorem d9_52 : decode prog_68_method_2_code 52 = .ok (.iload 4, 2) := by decide +kernel
theorem d9_54 : decode prog_68_method_2_code 54 = .ok (.bipush 48, 2) := by decide +kernel
theorem d9_56 : decode prog_68_method_2_code 56 = .ok (.if_icmp .lt 14, 3) := by decide +kernel
theorem d9_70 : decode prog_68_method_2_code 70 = .ok (.iconst 0, 1) := by decide +kernel
theorem d9_71 : decode prog_68_method_2_code 71 = .ok (.goto 14, 3) := by decide +kernel
theorem d9_59 : decode prog_68_method_2_code 59 = .ok (.iload 4, 2) := by decide +kernel
theorem d9_61 : decode prog_68_method_2_code 61 = .ok (.bipush 57, 2) := by decide +kernel
theorem d9_63 : decode prog_68_method_2_code 63 = .ok (.if_icmp .gt 7, 3) := by decide +kernel
theorem d9_66 : decode prog_68_method_2_code 66 = .ok (.iconst 1, 1) := by decide +kernel
theorem d9_67 : decode prog_68_method_2_code 67 = .ok (.goto 18, 3) := by decide +kernel
theorem d9_85 : decode prog_68_method_2_code 85 = .ok (.istore 5, 2) := by decide +kernel
theorem d9_87 : decode prog_68_method_2_code 87 = .ok (.iload 5, 2) := by decide +kernel
theorem d9_89 : decode prog_68_method_2_code 89 = .ok (.ifCond .ne 5, 3) := by decide +kernel
theorem d9_92 : decode prog_68_method_2_code 92 = .ok (.iconst 0, 1) := by decide +kernel
theorem d9_93 : decode prog_68_method_2_code 93 = .ok (.ireturn, 1) := by decide +kernel
theorem d9_94 : decode prog_68_method_2_code 94 = .ok (.iinc 2 1, 3) := by decide +kernel
theorem d9_97 : decode prog_68_method_2_code 97 = .ok (.goto (-79), 3) := by decide +kernel
theorem ef_rmM1 (m : MethodId) (x0 : Addr) (x1 : Addr) : entryFrame m #[(.ref x0), (.ref x1)] 6 = mkF m 0 #[.val (.ref x0), .val (.ref x1), .unset, .unset, .unset, .unset] [] := by first | (simp [entryFrame, mkF, argsToLocals, Value.category]; done) | rfl
set_option maxRecDepth 65536 in
set_option maxHeartbeats 40000000 in
theorem rmM1 (l : Launch) (Z : State) (a0 : Array Value) (hw : ∀ d ∈ tables_1, d.before a0 Z = true) (ws : List Jvm.Cond) (a sA tA sB tB : Addr) (kbA kbB : ClassId) (cs ds : List Int32) (G : Int32) (fm : Value) (a0_ b0_ r : Int32) (h0 : Heap) (n0 : Nat) (Z0 : n0 ≤ h0.size) (SC : Sta Z Z.heap "java/lang/String" "COMPACT_STRINGS" "Z" (.int G)) (hCS : ¬ G = 0) (O0 : Old Z n0 h0) (SF : Sta Z Z.heap "jdk/internal/util/Preconditions" "SIOOBE_FORMATTER" "Ljava/util/function/BiFunction;" fm) (rG : fm.isRef = true) (Ea : Exa Z h0 a "com/example/hebelwerk/hebelwerk/io/FixedForm") (Fa : Fld Z h0 a "com/example/hebelwerk/hebelwerk/io/FixedForm" "form" "Ljava/lang/String;" (.ref sA)) (EpA : Exa Z h0 sA "java/lang/String") (CpA : Fld Z h0 sA "java/lang/String" "coder" "B" (.int 0)) (VpA : Fld Z h0 sA "java/lang/String" "value" "[B" (.ref tA)) (ApA : Arv Z h0 tA kbA .byte (Int32.ofNat (cs).length) (((cs).map (fun c => c.toInt8.toInt32)).map Value.int) (.int 0)) (hppA : ∀ c ∈ cs, ¬ c < 0 ∧ ¬ (255 : Int32) < c) (l2pA : (cs).length ≤ 4000) (EpB : Exa Z h0 sB "java/lang/String") (CpB : Fld Z h0 sB "java/lang/String" "coder" "B" (.int 0)) (VpB : Fld Z h0 sB "java/lang/String" "value" "[B" (.ref tB)) (ApB : Arv Z h0 tB kbB .byte (Int32.ofNat (ds).length) (((ds).map (fun c => c.toInt8.toInt32)).map Value.int) (.int 0)) (hppB : ∀ c ∈ ds, ¬ c < 0 ∧ ¬ (255 : Int32) < c) (l2pB : (ds).length ≤ 4000) (ecs : cs = ([a0_] : List Int32)) (eds : ds = ([b0_] : List Int32)) (hr : r = if own_fits a0_ b0_ = 0 then (0 : Int32) else (1 : Int32)) :
    MetFree l (⟨"com/example/hebelwerk/hebelwerk/io/FixedForm", "matches", "(Ljava/lang/String;)Z"⟩ : MethodName) (head1 (Jvm.Cond.code (⟨"com/example/hebelwerk/hebelwerk/io/FixedForm", "matches", "(Ljava/lang/String;)Z"⟩ : MethodName) prog_68_method_2_code 6 (some .boolean) :: ws) ({ frames := 4, cells := 0, slots := 0, locals := 53 } : Room)) (fun a_ U_ => a_ = #[(.ref a), (.ref sB)] ∧ Z.Warmed39 U_.vm ∧ U_.heap = h0) (fun _ _ _ _ _ => True) (fun _ U_ o_ U'_ => ∃ v_ L_, o_ = .returned v_ ∧ QR (.int r) h0 n0 v_ U'_.heap L_ ∧ FrameEnd U_ o_ U'_ L_ ({ frames := 4, cells := 0, slots := 0, locals := 53 } : Room).cells ({ frames := 4, cells := 0, slots := 0, locals := 53 } : Room).slots) := by
  refine MetFree.of_bodySF (plainFor_of_name pn_2) hisR ?_
  intro p e s m args below meth c s₁ Bd hml0 hP hK
  obtain ⟨rfl, hZ, hh⟩ := hP
  have hx := Bd.exec
  have hby := Bd.bytes
  have hml : c.maxLocals = 6 := hml0
  have hown : s.vm.findClass "com/example/hebelwerk/hebelwerk/io/FixedForm" = some m.cls := findClass_of_methodNamed Bd.named
  have hnm := (name_of_methodNamed Bd.named Bd.method).1
  have hlk := BodyLoose.notSynchronized Bd
  have X0 : Stand p l e ({ frames := 4, cells := 0, slots := 0, locals := 53 } : Room) s m #[(.ref a), (.ref sB)] below meth c s₁ [] 0 0 := Stand.of_body Bd
  have e0 : s₁.heap = h0 := by rw [← hh, Bd.state]; rfl
  have N0 := Fr.nil n0
  refine own_entry (P := own_End s (QR (.int r) h0 n0) ({ frames := 4, cells := 0, slots := 0, locals := 53 } : Room).cells ({ frames := 4, cells := 0, slots := 0, locals := 53 } : Room).slots) (ef_rmM1 m a sB) ?_
  show own_Go p e below _ s₁ (mkF m 0 #[.val (.ref a), .val (.ref sB), .unset, .unset, .unset, .unset] [])
  subst ecs
  subst eds
  refine own_st (fun t_ k_ => XS.aloadN X0.here hx rfl (hb hby d9_0) rfl rfl k_) ?_
  show own_Go p e below _ s₁ (mkF m 1 #[.val (.ref a), .val (.ref sB), .unset, .unset, .unset, .unset] [(.ref sB)])
  obtain ⟨cq2, kq2, q2a, q2b, q2c⟩ := isOf hZ e0 EpB
  refine own_callV X0 hx (y := (⟨"java/lang/String", "length", "()I"⟩ : MethodName)) (z := (⟨"java/lang/String", "length", "()I"⟩ : MethodName)) hown (mvT hZ (hw _ (List.mem_of_getElem? (i := 46) rfl))) (mvT hZ (hw _ (List.mem_of_getElem? (i := 47) rfl))) (notFace_of_selects (args := #[]) (mvT hZ (hw _ (List.mem_of_getElem? (i := 49) rfl)))) (mvT hZ (hw _ (List.mem_of_getElem? (i := 49) rfl))) (mvT hZ (hw _ (List.mem_of_getElem? (i := 48) rfl))) (by decide) (own_intB rfl (StrChars.Road.lenW (W := 0) hZ (own_wLen hw) (kI := 4) (hw _ (List.mem_of_getElem? (i := 11) rfl)) (cs := ([b0_] : List Int32)) EpB VpB CpB ApB (StrChars.Road.codOf rfl (fun c hc => (hppB c hc).2)) (own_up hppB) (Sta.ext O0.2 SC) hCS l2pB (by decide) (by decide))) q2a q2c (g := (mkF m 1 #[.val (.ref a), .val (.ref sB), .unset, .unset, .unset, .unset] [(.ref sB)])) rfl (by rw [hml]; rfl) (argsL := []) (rest := []) (lenOf pd_2 rfl) rfl (by show 2 * 0 + _ ≤ _; exact Nat.le_of_eq rfl) (hb hby d9_1) rfl e0 (by decide) (by decide) ?_
  rintro v1 T1 L1 X1 ⟨rfl, rfl, hh1⟩
  have Nq1 := Fr.nil n0
  have N1 := Fr.app N0 Nq1
  show own_Go p e below _ T1 (mkF m 4 #[.val (.ref a), .val (.ref sB), .unset, .unset, .unset, .unset] [(.int (1 : Int32))])
  refine own_st (fun t_ k_ => XS.aloadN X1.here hx rfl (hb hby d9_4) rfl rfl k_) ?_
  show own_Go p e below _ T1 (mkF m 5 #[.val (.ref a), .val (.ref sB), .unset, .unset, .unset, .unset] [(.ref a), (.int (1 : Int32))])
  obtain ⟨T3, X3, e3, st3⟩ := getF X1 hx hZ hown (host := "") (Or.inl (hw _ (List.mem_of_getElem? (i := 39) rfl))) Via.refl hh1 Fa (g := (mkF m 5 #[.val (.ref a), .val (.ref sB), .unset, .unset, .unset, .unset] [(.ref a), (.int (1 : Int32))])) rfl rfl (hb hby d9_5)
  refine own_st st3 ?_
  show own_Go p e below _ T3 (mkF m 8 #[.val (.ref a), .val (.ref sB), .unset, .unset, .unset, .unset] [(.ref sA), (.int (1 : Int32))])
  obtain ⟨cq5, kq5, q5a, q5b, q5c⟩ := isOf hZ e3 EpA
  refine own_callV X3 hx (y := (⟨"java/lang/String", "length", "()I"⟩ : MethodName)) (z := (⟨"java/lang/String", "length", "()I"⟩ : MethodName)) hown (mvT hZ (hw _ (List.mem_of_getElem? (i := 46) rfl))) (mvT hZ (hw _ (List.mem_of_getElem? (i := 47) rfl))) (notFace_of_selects (args := #[]) (mvT hZ (hw _ (List.mem_of_getElem? (i := 49) rfl)))) (mvT hZ (hw _ (List.mem_of_getElem? (i := 49) rfl))) (mvT hZ (hw _ (List.mem_of_getElem? (i := 48) rfl))) (by decide) (own_intB rfl (StrChars.Road.lenW (W := 1) hZ (own_wLen hw) (kI := 4) (hw _ (List.mem_of_getElem? (i := 11) rfl)) (cs := ([a0_] : List Int32)) EpA VpA CpA ApA (StrChars.Road.codOf rfl (fun c hc => (hppA c hc).2)) (own_up hppA) (Sta.ext O0.2 SC) hCS l2pA (by decide) (by decide))) q5a q5c (g := (mkF m 8 #[.val (.ref a), .val (.ref sB), .unset, .unset, .unset, .unset] [(.ref sA), (.int (1 : Int32))])) rfl (by rw [hml]; rfl) (argsL := []) (rest := [(.int (1 : Int32))]) (lenOf pd_2 rfl) rfl (by show 2 * 0 + _ ≤ _; exact Nat.le_of_eq rfl) (hb hby d9_8) rfl e3 (by decide) (by decide) ?_
  rintro v4 T4 L4 X4 ⟨rfl, rfl, hh4⟩
  have Nq4 := Fr.nil n0
  have N4 := Fr.app N1 Nq4
  show own_Go p e below _ T4 (mkF m 11 #[.val (.ref a), .val (.ref sB), .unset, .unset, .unset, .unset] [(.int (1 : Int32)), (.int (1 : Int32))])
  refine own_st (fun t_ k_ => XS.icmpYes X4.here hx rfl (pc0 := 11) (pc' := 16) rfl (hb hby d9_11) rfl (by decide) (by decide) (by decide) k_) ?_
  show own_Go p e below _ T4 (mkF m 16 #[.val (.ref a), .val (.ref sB), .unset, .unset, .unset, .unset] [])
  refine own_st (fun t_ k_ => XS.iconst X4.here hx rfl (hb hby d9_16) k_) ?_
  show own_Go p e below _ T4 (mkF m 17 #[.val (.ref a), .val (.ref sB), .unset, .unset, .unset, .unset] [(.int (0 : Int32))])
  refine own_st (fun t_ k_ => XS.istoreN X4.here hx rfl (hb hby d9_17) rfl (l' := #[.val (.ref a), .val (.ref sB), .val (.int (0 : Int32)), .unset, .unset, .unset]) rfl k_) ?_
  show own_Go p e below _ T4 (mkF m 18 #[.val (.ref a), .val (.ref sB), .val (.int (0 : Int32)), .unset, .unset, .unset] [])
  refine own_st (fun t_ k_ => XS.iloadN X4.here hx rfl (hb hby d9_18) rfl k_) ?_
  show own_Go p e below _ T4 (mkF m 19 #[.val (.ref a), .val (.ref sB), .val (.int (0 : Int32)), .unset, .unset, .unset] [(.int (0 : Int32))])
  refine own_st (fun t_ k_ => XS.aloadN X4.here hx rfl (hb hby d9_19) rfl rfl k_) ?_
  show own_Go p e below _ T4 (mkF m 20 #[.val (.ref a), .val (.ref sB), .val (.int (0 : Int32)), .unset, .unset, .unset] [(.ref a), (.int (0 : Int32))])
  obtain ⟨T6, X6, e6, st6⟩ := getF X4 hx hZ hown (host := "") (Or.inl (hw _ (List.mem_of_getElem? (i := 39) rfl))) Via.refl hh4 Fa (g := (mkF m 20 #[.val (.ref a), .val (.ref sB), .val (.int (0 : Int32)), .unset, .unset, .unset] [(.ref a), (.int (0 : Int32))])) rfl rfl (hb hby d9_20)
  refine own_st st6 ?_
  show own_Go p e below _ T6 (mkF m 23 #[.val (.ref a), .val (.ref sB), .val (.int (0 : Int32)), .unset, .unset, .unset] [(.ref sA), (.int (0 : Int32))])
  obtain ⟨cq8, kq8, q8a, q8b, q8c⟩ := isOf hZ e6 EpA
  refine own_callV X6 hx (y := (⟨"java/lang/String", "length", "()I"⟩ : MethodName)) (z := (⟨"java/lang/String", "length", "()I"⟩ : MethodName)) hown (mvT hZ (hw _ (List.mem_of_getElem? (i := 46) rfl))) (mvT hZ (hw _ (List.mem_of_getElem? (i := 47) rfl))) (notFace_of_selects (args := #[]) (mvT hZ (hw _ (List.mem_of_getElem? (i := 49) rfl)))) (mvT hZ (hw _ (List.mem_of_getElem? (i := 49) rfl))) (mvT hZ (hw _ (List.mem_of_getElem? (i := 48) rfl))) (by decide) (own_intB rfl (StrChars.Road.lenW (W := 1) hZ (own_wLen hw) (kI := 4) (hw _ (List.mem_of_getElem? (i := 11) rfl)) (cs := ([a0_] : List Int32)) EpA VpA CpA ApA (StrChars.Road.codOf rfl (fun c hc => (hppA c hc).2)) (own_up hppA) (Sta.ext O0.2 SC) hCS l2pA (by decide) (by decide))) q8a q8c (g := (mkF m 23 #[.val (.ref a), .val (.ref sB), .val (.int (0 : Int32)), .unset, .unset, .unset] [(.ref sA), (.int (0 : Int32))])) rfl (by rw [hml]; rfl) (argsL := []) (rest := [(.int (0 : Int32))]) (lenOf pd_2 rfl) rfl (by show 2 * 0 + _ ≤ _; exact Nat.le_of_eq rfl) (hb hby d9_23) rfl e6 (by decide) (by decide) ?_
  rintro v7 T7 L7 X7 ⟨rfl, rfl, hh7⟩
  have Nq7 := Fr.nil n0
  have N7 := Fr.app N4 Nq7
  show own_Go p e below _ T7 (mkF m 26 #[.val (.ref a), .val (.ref sB), .val (.int (0 : Int32)), .unset, .unset, .unset] [(.int (1 : Int32)), (.int (0 : Int32))])
  refine own_st (fun t_ k_ => XS.icmpNo X7.here hx rfl (hb hby d9_26) rfl (by decide) k_) ?_
  show own_Go p e below _ T7 (mkF m 29 #[.val (.ref a), .val (.ref sB), .val (.int (0 : Int32)), .unset, .unset, .unset] [])
  refine own_st (fun t_ k_ => XS.aloadN X7.here hx rfl (hb hby d9_29) rfl rfl k_) ?_
  show own_Go p e below _ T7 (mkF m 30 #[.val (.ref a), .val (.ref sB), .val (.int (0 : Int32)), .unset, .unset, .unset] [(.ref a)])
  obtain ⟨T9, X9, e9, st9⟩ := getF X7 hx hZ hown (host := "") (Or.inl (hw _ (List.mem_of_getElem? (i := 39) rfl))) Via.refl hh7 Fa (g := (mkF m 30 #[.val (.ref a), .val (.ref sB), .val (.int (0 : Int32)), .unset, .unset, .unset] [(.ref a)])) rfl rfl (hb hby d9_30)
  refine own_st st9 ?_
  show own_Go p e below _ T9 (mkF m 33 #[.val (.ref a), .val (.ref sB), .val (.int (0 : Int32)), .unset, .unset, .unset] [(.ref sA)])
  refine own_st (fun t_ k_ => XS.iloadN X9.here hx rfl (hb hby d9_33) rfl k_) ?_
  show own_Go p e below _ T9 (mkF m 34 #[.val (.ref a), .val (.ref sB), .val (.int (0 : Int32)), .unset, .unset, .unset] [(.int (0 : Int32)), (.ref sA)])
  obtain ⟨cq11, kq11, q11a, q11b, q11c⟩ := isOf hZ e9 EpA
  refine own_callV X9 hx (y := (⟨"java/lang/String", "charAt", "(I)C"⟩ : MethodName)) (z := (⟨"java/lang/String", "charAt", "(I)C"⟩ : MethodName)) hown (mvT hZ (hw _ (List.mem_of_getElem? (i := 70) rfl))) (mvT hZ (hw _ (List.mem_of_getElem? (i := 71) rfl))) (notFace_of_selects (args := #[]) (mvT hZ (hw _ (List.mem_of_getElem? (i := 73) rfl)))) (mvT hZ (hw _ (List.mem_of_getElem? (i := 73) rfl))) (mvT hZ (hw _ (List.mem_of_getElem? (i := 72) rfl))) (by decide) (own_intB rfl (StrChars.Road.chN (W := 0) hZ (own_wChN hw) (kI := 4) (hw _ (List.mem_of_getElem? (i := 11) rfl)) (cs := ([a0_] : List Int32)) EpA VpA CpA ApA (StrChars.Road.codOf rfl (fun c hc => (hppA c hc).2)) (own_up hppA) (Sta.ext O0.2 SC) hCS (Sta.ext O0.2 SF) rG l2pA (i := 0) (Nat.le_of_ble_eq_true rfl) (j := (0 : Int32)) rfl (by decide) (by decide))) q11a q11c (g := (mkF m 34 #[.val (.ref a), .val (.ref sB), .val (.int (0 : Int32)), .unset, .unset, .unset] [(.int (0 : Int32)), (.ref sA)])) rfl (by rw [hml]; rfl) (argsL := [(.int (0 : Int32))]) (rest := []) (lenOf pd_3 rfl) rfl (by show 2 * 0 + _ ≤ _; exact Nat.le_of_eq rfl) (hb hby d9_34) rfl e9 (by decide) (by decide) ?_
  rintro v10 T10 L10 X10 ⟨rfl, rfl, hh10⟩
  have Nq10 := Fr.nil n0
  have N10 := Fr.app N7 Nq10
  show own_Go p e below _ T10 (mkF m 37 #[.val (.ref a), .val (.ref sB), .val (.int (0 : Int32)), .unset, .unset, .unset] [(.int a0_)])
  refine own_st (fun t_ k_ => XS.istoreN X10.here hx rfl (hb hby d9_37) rfl (l' := #[.val (.ref a), .val (.ref sB), .val (.int (0 : Int32)), .val (.int a0_), .unset, .unset]) rfl k_) ?_
  show own_Go p e below _ T10 (mkF m 38 #[.val (.ref a), .val (.ref sB), .val (.int (0 : Int32)), .val (.int a0_), .unset, .unset] [])
  refine own_st (fun t_ k_ => XS.aloadN X10.here hx rfl (hb hby d9_38) rfl rfl k_) ?_
  show own_Go p e below _ T10 (mkF m 39 #[.val (.ref a), .val (.ref sB), .val (.int (0 : Int32)), .val (.int a0_), .unset, .unset] [(.ref sB)])
  refine own_st (fun t_ k_ => XS.iloadN X10.here hx rfl (hb hby d9_39) rfl k_) ?_
  show own_Go p e below _ T10 (mkF m 40 #[.val (.ref a), .val (.ref sB), .val (.int (0 : Int32)), .val (.int a0_), .unset, .unset] [(.int (0 : Int32)), (.ref sB)])
  obtain ⟨cq13, kq13, q13a, q13b, q13c⟩ := isOf hZ hh10 EpB
  refine own_callV X10 hx (y := (⟨"java/lang/String", "charAt", "(I)C"⟩ : MethodName)) (z := (⟨"java/lang/String", "charAt", "(I)C"⟩ : MethodName)) hown (mvT hZ (hw _ (List.mem_of_getElem? (i := 70) rfl))) (mvT hZ (hw _ (List.mem_of_getElem? (i := 71) rfl))) (notFace_of_selects (args := #[]) (mvT hZ (hw _ (List.mem_of_getElem? (i := 73) rfl)))) (mvT hZ (hw _ (List.mem_of_getElem? (i := 73) rfl))) (mvT hZ (hw _ (List.mem_of_getElem? (i := 72) rfl))) (by decide) (own_intB rfl (StrChars.Road.chN (W := 0) hZ (own_wChN hw) (kI := 4) (hw _ (List.mem_of_getElem? (i := 11) rfl)) (cs := ([b0_] : List Int32)) EpB VpB CpB ApB (StrChars.Road.codOf rfl (fun c hc => (hppB c hc).2)) (own_up hppB) (Sta.ext O0.2 SC) hCS (Sta.ext O0.2 SF) rG l2pB (i := 0) (Nat.le_of_ble_eq_true rfl) (j := (0 : Int32)) rfl (by decide) (by decide))) q13a q13c (g := (mkF m 40 #[.val (.ref a), .val (.ref sB), .val (.int (0 : Int32)), .val (.int a0_), .unset, .unset] [(.int (0 : Int32)), (.ref sB)])) rfl (by rw [hml]; rfl) (argsL := [(.int (0 : Int32))]) (rest := []) (lenOf pd_3 rfl) rfl (by show 2 * 0 + _ ≤ _; exact Nat.le_of_eq rfl) (hb hby d9_40) rfl hh10 (by decide) (by decide) ?_
  rintro v12 T12 L12 X12 ⟨rfl, rfl, hh12⟩
  have Nq12 := Fr.nil n0
  have N12 := Fr.app N10 Nq12
  show own_Go p e below _ T12 (mkF m 43 #[.val (.ref a), .val (.ref sB), .val (.int (0 : Int32)), .val (.int a0_), .unset, .unset] [(.int b0_)])
  refine own_st (fun t_ k_ => XS.istore X12.here hx rfl (hb hby d9_43) rfl (l' := #[.val (.ref a), .val (.ref sB), .val (.int (0 : Int32)), .val (.int a0_), .val (.int b0_), .unset]) rfl k_) ?_
  show own_Go p e below _ T12 (mkF m 45 #[.val (.ref a), .val (.ref sB), .val (.int (0 : Int32)), .val (.int a0_), .val (.int b0_), .unset] [])
  refine own_st (fun t_ k_ => XS.iloadN X12.here hx rfl (hb hby d9_45) rfl k_) ?_
  show own_Go p e below _ T12 (mkF m 46 #[.val (.ref a), .val (.ref sB), .val (.int (0 : Int32)), .val (.int a0_), .val (.int b0_), .unset] [(.int a0_)])
  refine own_callS X12 hx (y := (⟨"com/example/hebelwerk/hebelwerk/io/FixedForm", "isCapital", "(C)Z"⟩ : MethodName)) hown (mvT hZ (hw _ (List.mem_of_getElem? (i := 92) rfl))) (mvT hZ (hw _ (List.mem_of_getElem? (i := 93) rfl))) (mvT hZ (hw _ (List.mem_of_getElem? (i := 34) rfl))) (mvT hZ (hw _ (List.mem_of_getElem? (i := 94) rfl))) (by decide) (backOf (W := 0) (rmIC l Z a0 hw [] a0_ h0 n0 (Nat.le_trans Z0 (Keep.refl h0 []).1)) hZ (hw _ (List.mem_of_getElem? (i := 94) rfl)) (hw _ (List.mem_of_getElem? (i := 34) rfl)) (by decide) (by decide)) (g := (mkF m 46 #[.val (.ref a), .val (.ref sB), .val (.int (0 : Int32)), .val (.int a0_), .val (.int b0_), .unset] [(.int a0_)])) rfl (by rw [hml]; rfl) (argsL := [(.int a0_)]) (rest := []) (lenOf pd_4 rfl) rfl (by show 2 * 0 + _ ≤ _; exact Nat.le_of_eq rfl) (hb hby d9_46) rfl hh12 (by decide) (by decide) ?_
  rintro v14 T14 L14 X14 ⟨rfl, Nq14, hh14⟩
  have N14 := Fr.app N12 Nq14
  show own_Go p e below _ T14 (mkF m 49 #[.val (.ref a), .val (.ref sB), .val (.int (0 : Int32)), .val (.int a0_), .val (.int b0_), .unset] [(.int (own_cap a0_))])
  refine own_join (α := Int32) (F := fun f0_ => f0_ = own_fits a0_ b0_) (T' := T14) (g' := fun f0_ => (mkF m 85 #[.val (.ref a), .val (.ref sB), .val (.int (0 : Int32)), .val (.int a0_), .val (.int b0_), .unset] [(.int f0_)])) (fun f0_ h_f0_ => ?_) (fun J_f0_ => ?_)
  · show own_Go p e below _ T14 (mkF m 85 #[.val (.ref a), .val (.ref sB), .val (.int (0 : Int32)), .val (.int a0_), .val (.int b0_), .unset] [(.int f0_)])
    subst h_f0_
    show own_Go p e below _ T14 (mkF m 85 #[.val (.ref a), .val (.ref sB), .val (.int (0 : Int32)), .val (.int a0_), .val (.int b0_), .unset] [(.int (own_fits a0_ b0_))])
    refine own_st (fun t_ k_ => XS.istore X14.here hx rfl (hb hby d9_85) rfl (l' := #[.val (.ref a), .val (.ref sB), .val (.int (0 : Int32)), .val (.int a0_), .val (.int b0_), .val (.int (own_fits a0_ b0_))]) rfl k_) ?_
    show own_Go p e below _ T14 (mkF m 87 #[.val (.ref a), .val (.ref sB), .val (.int (0 : Int32)), .val (.int a0_), .val (.int b0_), .val (.int (own_fits a0_ b0_))] [])
    refine own_st (fun t_ k_ => XS.iload X14.here hx rfl (hb hby d9_87) rfl k_) ?_
    show own_Go p e below _ T14 (mkF m 89 #[.val (.ref a), .val (.ref sB), .val (.int (0 : Int32)), .val (.int a0_), .val (.int b0_), .val (.int (own_fits a0_ b0_))] [(.int (own_fits a0_ b0_))])
    by_cases hz0_ : (own_fits a0_ b0_) = (0 : Int32)
    · refine own_st (fun t_ k_ => XS.ifNo X14.here hx rfl (hb hby d9_89) rfl ((if0 _ _).trans (teq hz0_).2) k_) ?_
      show own_Go p e below _ T14 (mkF m 92 #[.val (.ref a), .val (.ref sB), .val (.int (0 : Int32)), .val (.int a0_), .val (.int b0_), .val (.int (own_fits a0_ b0_))] [])
      refine own_st (fun t_ k_ => XS.iconst X14.here hx rfl (hb hby d9_92) k_) ?_
      show own_Go p e below _ T14 (mkF m 93 #[.val (.ref a), .val (.ref sB), .val (.int (0 : Int32)), .val (.int a0_), .val (.int b0_), .val (.int (own_fits a0_ b0_))] [(.int (0 : Int32))])
      refine own_retN X14 hx hlk (t := .boolean) Bd.returns (by simp) (hb hby d9_93) ?_ (by decide) (by decide)
      show QR (.int r) h0 n0 _ T14.heap _
      rw [hh14]
      exact ⟨by rw [hr, if_pos hz0_]; rfl, N14, rfl⟩
    · refine own_st (fun t_ k_ => XS.ifYes X14.here hx rfl (pc0 := 89) (pc' := 94) rfl (hb hby d9_89) rfl ((if0 _ _).trans (feq hz0_).2) (by decide) (by decide) k_) ?_
      show own_Go p e below _ T14 (mkF m 94 #[.val (.ref a), .val (.ref sB), .val (.int (0 : Int32)), .val (.int a0_), .val (.int b0_), .val (.int (own_fits a0_ b0_))] [])
      refine own_st (fun t_ k_ => XS.iinc X14.here hx rfl (hb hby d9_94) rfl (l' := #[.val (.ref a), .val (.ref sB), .val (.int (1 : Int32)), .val (.int a0_), .val (.int b0_), .val (.int (own_fits a0_ b0_))]) rfl k_) ?_
      show own_Go p e below _ T14 (mkF m 97 #[.val (.ref a), .val (.ref sB), .val (.int (1 : Int32)), .val (.int a0_), .val (.int b0_), .val (.int (own_fits a0_ b0_))] [])
      refine own_st (fun t_ k_ => XS.goto X14.here hx rfl (pc0 := 97) (pc' := 18) rfl (hb hby d9_97) (by decide) (by decide) k_) ?_
      show own_Go p e below _ T14 (mkF m 18 #[.val (.ref a), .val (.ref sB), .val (.int (1 : Int32)), .val (.int a0_), .val (.int b0_), .val (.int (own_fits a0_ b0_))] [])
      refine own_st (fun t_ k_ => XS.iloadN X14.here hx rfl (hb hby d9_18) rfl k_) ?_
      show own_Go p e below _ T14 (mkF m 19 #[.val (.ref a), .val (.ref sB), .val (.int (1 : Int32)), .val (.int a0_), .val (.int b0_), .val (.int (own_fits a0_ b0_))] [(.int (1 : Int32))])
      refine own_st (fun t_ k_ => XS.aloadN X14.here hx rfl (hb hby d9_19) rfl rfl k_) ?_
      show own_Go p e below _ T14 (mkF m 20 #[.val (.ref a), .val (.ref sB), .val (.int (1 : Int32)), .val (.int a0_), .val (.int b0_), .val (.int (own_fits a0_ b0_))] [(.ref a), (.int (1 : Int32))])
      obtain ⟨T18, X18, e18, st18⟩ := getF X14 hx hZ hown (host := "") (Or.inl (hw _ (List.mem_of_getElem? (i := 39) rfl))) Via.refl hh14 Fa (g := (mkF m 20 #[.val (.ref a), .val (.ref sB), .val (.int (1 : Int32)), .val (.int a0_), .val (.int b0_), .val (.int (own_fits a0_ b0_))] [(.ref a), (.int (1 : Int32))])) rfl rfl (hb hby d9_20)
      refine own_st st18 ?_
      show own_Go p e below _ T18 (mkF m 23 #[.val (.ref a), .val (.ref sB), .val (.int (1 : Int32)), .val (.int a0_), .val (.int b0_), .val (.int (own_fits a0_ b0_))] [(.ref sA), (.int (1 : Int32))])
      obtain ⟨cq20, kq20, q20a, q20b, q20c⟩ := isOf hZ e18 EpA
      refine own_callV X18 hx (y := (⟨"java/lang/String", "length", "()I"⟩ : MethodName)) (z := (⟨"java/lang/String", "length", "()I"⟩ : MethodName)) hown (mvT hZ (hw _ (List.mem_of_getElem? (i := 46) rfl))) (mvT hZ (hw _ (List.mem_of_getElem? (i := 47) rfl))) (notFace_of_selects (args := #[]) (mvT hZ (hw _ (List.mem_of_getElem? (i := 49) rfl)))) (mvT hZ (hw _ (List.mem_of_getElem? (i := 49) rfl))) (mvT hZ (hw _ (List.mem_of_getElem? (i := 48) rfl))) (by decide) (own_intB rfl (StrChars.Road.lenW (W := 1) hZ (own_wLen hw) (kI := 4) (hw _ (List.mem_of_getElem? (i := 11) rfl)) (cs := ([a0_] : List Int32)) EpA VpA CpA ApA (StrChars.Road.codOf rfl (fun c hc => (hppA c hc).2)) (own_up hppA) (Sta.ext O0.2 SC) hCS l2pA (by decide) (by decide))) q20a q20c (g := (mkF m 23 #[.val (.ref a), .val (.ref sB), .val (.int (1 : Int32)), .val (.int a0_), .val (.int b0_), .val (.int (own_fits a0_ b0_))] [(.ref sA), (.int (1 : Int32))])) rfl (by rw [hml]; rfl) (argsL := []) (rest := [(.int (1 : Int32))]) (lenOf pd_2 rfl) rfl (by show 2 * 0 + _ ≤ _; exact Nat.le_of_eq rfl) (hb hby d9_23) rfl e18 (by decide) (by decide) ?_
      rintro v19 T19 L19 X19 ⟨rfl, rfl, hh19⟩
      have Nq19 := Fr.nil n0
      have N19 := Fr.app N14 Nq19
      show own_Go p e below _ T19 (mkF m 26 #[.val (.ref a), .val (.ref sB), .val (.int (1 : Int32)), .val (.int a0_), .val (.int b0_), .val (.int (own_fits a0_ b0_))] [(.int (1 : Int32)), (.int (1 : Int32))])
      refine own_st (fun t_ k_ => XS.icmpYes X19.here hx rfl (pc0 := 26) (pc' := 100) rfl (hb hby d9_26) rfl (by decide) (by decide) (by decide) k_) ?_
      show own_Go p e below _ T19 (mkF m 100 #[.val (.ref a), .val (.ref sB), .val (.int (1 : Int32)), .val (.int a0_), .val (.int b0_), .val (.int (own_fits a0_ b0_))] [])
      refine own_st (fun t_ k_ => XS.iconst X19.here hx rfl (hb hby d9_100) k_) ?_
      show own_Go p e below _ T19 (mkF m 101 #[.val (.ref a), .val (.ref sB), .val (.int (1 : Int32)), .val (.int a0_), .val (.int b0_), .val (.int (own_fits a0_ b0_))] [(.int (1 : Int32))])
      refine own_retN X19 hx hlk (t := .boolean) Bd.returns (by simp) (hb hby d9_101) ?_ (by decide) (by decide)
      show QR (.int r) h0 n0 _ T19.heap _
      rw [hh19]
      exact ⟨by rw [hr, if_neg hz0_]; try rfl, N19, rfl⟩
  · show own_Go p e below _ T14 (mkF m 49 #[.val (.ref a), .val (.ref sB), .val (.int (0 : Int32)), .val (.int a0_), .val (.int b0_), .unset] [(.int (own_cap a0_))])
    by_cases hcap : (own_cap a0_) = (0 : Int32)
    · refine own_st (fun t_ k_ => XS.ifYes X14.here hx rfl (pc0 := 49) (pc' := 74) rfl (hb hby d9_49) rfl ((if0 _ _).trans (teq hcap).1) (by decide) (by decide) k_) ?_
      show own_Go p e below _ T14 (mkF m 74 #[.val (.ref a), .val (.ref sB), .val (.int (0 : Int32)), .val (.int a0_), .val (.int b0_), .unset] [])
      have hf_ := own_fc (b := b0_) hcap
      refine own_st (fun t_ k_ => XS.iload X14.here hx rfl (hb hby d9_74) rfl k_) ?_
      show own_Go p e below _ T14 (mkF m 76 #[.val (.ref a), .val (.ref sB), .val (.int (0 : Int32)), .val (.int a0_), .val (.int b0_), .unset] [(.int b0_)])
      refine own_st (fun t_ k_ => XS.iloadN X14.here hx rfl (hb hby d9_76) rfl k_) ?_
      show own_Go p e below _ T14 (mkF m 77 #[.val (.ref a), .val (.ref sB), .val (.int (0 : Int32)), .val (.int a0_), .val (.int b0_), .unset] [(.int a0_), (.int b0_)])
      by_cases hl15 : b0_ = a0_
      · refine own_st (fun t_ k_ => XS.icmpNo X14.here hx rfl (hb hby d9_77) rfl (teq hl15).2 k_) ?_
        show own_Go p e below _ T14 (mkF m 80 #[.val (.ref a), .val (.ref sB), .val (.int (0 : Int32)), .val (.int a0_), .val (.int b0_), .unset] [])
        refine own_st (fun t_ k_ => XS.iconst X14.here hx rfl (hb hby d9_80) k_) ?_
        show own_Go p e below _ T14 (mkF m 81 #[.val (.ref a), .val (.ref sB), .val (.int (0 : Int32)), .val (.int a0_), .val (.int b0_), .unset] [(.int (1 : Int32))])
        refine own_st (fun t_ k_ => XS.goto X14.here hx rfl (pc0 := 81) (pc' := 85) rfl (hb hby d9_81) (by decide) (by decide) k_) ?_
        show own_Go p e below _ T14 (mkF m 85 #[.val (.ref a), .val (.ref sB), .val (.int (0 : Int32)), .val (.int a0_), .val (.int b0_), .unset] [(.int (1 : Int32))])
        exact J_f0_ (1 : Int32) (by rw [hf_, if_pos hl15])
      · refine own_st (fun t_ k_ => XS.icmpYes X14.here hx rfl (pc0 := 77) (pc' := 84) rfl (hb hby d9_77) rfl (feq hl15).2 (by decide) (by decide) k_) ?_
        show own_Go p e below _ T14 (mkF m 84 #[.val (.ref a), .val (.ref sB), .val (.int (0 : Int32)), .val (.int a0_), .val (.int b0_), .unset] [])
        refine own_st (fun t_ k_ => XS.iconst X14.here hx rfl (hb hby d9_84) k_) ?_
        show own_Go p e below _ T14 (mkF m 85 #[.val (.ref a), .val (.ref sB), .val (.int (0 : Int32)), .val (.int a0_), .val (.int b0_), .unset] [(.int (0 : Int32))])
        exact J_f0_ (0 : Int32) (by rw [hf_, if_neg hl15])
    · refine own_st (fun t_ k_ => XS.ifNo X14.here hx rfl (hb hby d9_49) rfl ((if0 _ _).trans (feq hcap).1) k_) ?_
      show own_Go p e below _ T14 (mkF m 52 #[.val (.ref a), .val (.ref sB), .val (.int (0 : Int32)), .val (.int a0_), .val (.int b0_), .unset] [])
      have hf_ := own_fn (b := b0_) hcap
      refine own_st (fun t_ k_ => XS.iload X14.here hx rfl (hb hby d9_52) rfl k_) ?_
      show own_Go p e below _ T14 (mkF m 54 #[.val (.ref a), .val (.ref sB), .val (.int (0 : Int32)), .val (.int a0_), .val (.int b0_), .unset] [(.int b0_)])
      refine own_st (fun t_ k_ => XS.bipush X14.here hx rfl (hb hby d9_54) k_) ?_
      show own_Go p e below _ T14 (mkF m 56 #[.val (.ref a), .val (.ref sB), .val (.int (0 : Int32)), .val (.int a0_), .val (.int b0_), .unset] [(.int (48 : Int32)), (.int b0_)])
      by_cases hl16 : b0_ < (48 : Int32)
      · refine own_st (fun t_ k_ => XS.icmpYes X14.here hx rfl (pc0 := 56) (pc' := 70) rfl (hb hby d9_56) rfl (tlt hl16).1 (by decide) (by decide) k_) ?_
        show own_Go p e below _ T14 (mkF m 70 #[.val (.ref a), .val (.ref sB), .val (.int (0 : Int32)), .val (.int a0_), .val (.int b0_), .unset] [])
        refine own_st (fun t_ k_ => XS.iconst X14.here hx rfl (hb hby d9_70) k_) ?_
        show own_Go p e below _ T14 (mkF m 71 #[.val (.ref a), .val (.ref sB), .val (.int (0 : Int32)), .val (.int a0_), .val (.int b0_), .unset] [(.int (0 : Int32))])
        refine own_st (fun t_ k_ => XS.goto X14.here hx rfl (pc0 := 71) (pc' := 85) rfl (hb hby d9_71) (by decide) (by decide) k_) ?_
        show own_Go p e below _ T14 (mkF m 85 #[.val (.ref a), .val (.ref sB), .val (.int (0 : Int32)), .val (.int a0_), .val (.int b0_), .unset] [(.int (0 : Int32))])
        exact J_f0_ (0 : Int32) (by rw [hf_, if_pos hl16])
      · refine own_st (fun t_ k_ => XS.icmpNo X14.here hx rfl (hb hby d9_56) rfl (flt hl16).1 k_) ?_
        show own_Go p e below _ T14 (mkF m 59 #[.val (.ref a), .val (.ref sB), .val (.int (0 : Int32)), .val (.int a0_), .val (.int b0_), .unset] [])
        refine own_st (fun t_ k_ => XS.iload X14.here hx rfl (hb hby d9_59) rfl k_) ?_
        show own_Go p e below _ T14 (mkF m 61 #[.val (.ref a), .val (.ref sB), .val (.int (0 : Int32)), .val (.int a0_), .val (.int b0_), .unset] [(.int b0_)])
        refine own_st (fun t_ k_ => XS.bipush X14.here hx rfl (hb hby d9_61) k_) ?_
        show own_Go p e below _ T14 (mkF m 63 #[.val (.ref a), .val (.ref sB), .val (.int (0 : Int32)), .val (.int a0_), .val (.int b0_), .unset] [(.int (57 : Int32)), (.int b0_)])
        by_cases hl17 : (57 : Int32) < b0_
        · refine own_st (fun t_ k_ => XS.icmpYes X14.here hx rfl (pc0 := 63) (pc' := 70) rfl (hb hby d9_63) rfl (tlt hl17).2.2.1 (by decide) (by decide) k_) ?_
          show own_Go p e below _ T14 (mkF m 70 #[.val (.ref a), .val (.ref sB), .val (.int (0 : Int32)), .val (.int a0_), .val (.int b0_), .unset] [])
          refine own_st (fun t_ k_ => XS.iconst X14.here hx rfl (hb hby d9_70) k_) ?_
          show own_Go p e below _ T14 (mkF m 71 #[.val (.ref a), .val (.ref sB), .val (.int (0 : Int32)), .val (.int a0_), .val (.int b0_), .unset] [(.int (0 : Int32))])
          refine own_st (fun t_ k_ => XS.goto X14.here hx rfl (pc0 := 71) (pc' := 85) rfl (hb hby d9_71) (by decide) (by decide) k_) ?_
          show own_Go p e below _ T14 (mkF m 85 #[.val (.ref a), .val (.ref sB), .val (.int (0 : Int32)), .val (.int a0_), .val (.int b0_), .unset] [(.int (0 : Int32))])
          exact J_f0_ (0 : Int32) (by rw [hf_, if_neg hl16, if_pos hl17])
        · refine own_st (fun t_ k_ => XS.icmpNo X14.here hx rfl (hb hby d9_63) rfl (flt hl17).2.2.1 k_) ?_
          show own_Go p e below _ T14 (mkF m 66 #[.val (.ref a), .val (.ref sB), .val (.int (0 : Int32)), .val (.int a0_), .val (.int b0_), .unset] [])
          refine own_st (fun t_ k_ => XS.iconst X14.here hx rfl (hb hby d9_66) k_) ?_
          show own_Go p e below _ T14 (mkF m 67 #[.val (.ref a), .val (.ref sB), .val (.int (0 : Int32)), .val (.int a0_), .val (.int b0_), .unset] [(.int (1 : Int32))])
          refine own_st (fun t_ k_ => XS.goto X14.here hx rfl (pc0 := 67) (pc' := 85) rfl (hb hby d9_67) (by decide) (by decide) k_) ?_
          show own_Go p e below _ T14 (mkF m 85 #[.val (.ref a), .val (.ref sB), .val (.int (0 : Int32)), .val (.int a0_), .val (.int b0_), .unset] [(.int (1 : Int32))])
          exact J_f0_ (1 : Int32) (by rw [hf_, if_neg hl16, if_neg hl17])
theorem ef_rmM2 (m : MethodId) (x0 : Addr) (x1 : Addr) : entryFrame m #[(.ref x0), (.ref x1)] 6 = mkF m 0 #[.val (.ref x0), .val (.ref x1), .unset, .unset, .unset, .unset] [] := by first | (simp [entryFrame, mkF, argsToLocals, Value.category]; done) | rfl
set_option maxRecDepth 65536 in
set_option maxHeartbeats 40000000 in
theorem rmM2 (l : Launch) (Z : State) (a0 : Array Value) (hw : ∀ d ∈ tables_1, d.before a0 Z = true) (ws : List Jvm.Cond) (a sA tA sB tB : Addr) (kbA kbB : ClassId) (cs ds : List Int32) (G : Int32) (fm : Value) (a0_ a1_ b0_ b1_ r : Int32) (h0 : Heap) (n0 : Nat) (Z0 : n0 ≤ h0.size) (SC : Sta Z Z.heap "java/lang/String" "COMPACT_STRINGS" "Z" (.int G)) (hCS : ¬ G = 0) (O0 : Old Z n0 h0) (SF : Sta Z Z.heap "jdk/internal/util/Preconditions" "SIOOBE_FORMATTER" "Ljava/util/function/BiFunction;" fm) (rG : fm.isRef = true) (Ea : Exa Z h0 a "com/example/hebelwerk/hebelwerk/io/FixedForm") (Fa : Fld Z h0 a "com/example/hebelwerk/hebelwerk/io/FixedForm" "form" "Ljava/lang/String;" (.ref sA)) (EpA : Exa Z h0 sA "java/lang/String") (CpA : Fld Z h0 sA "java/lang/String" "coder" "B" (.int 0)) (VpA : Fld Z h0 sA "java/lang/String" "value" "[B" (.ref tA)) (ApA : Arv Z h0 tA kbA .byte (Int32.ofNat (cs).length) (((cs).map (fun c => c.toInt8.toInt32)).map Value.int) (.int 0)) (hppA : ∀ c ∈ cs, ¬ c < 0 ∧ ¬ (255 : Int32) < c) (l2pA : (cs).length ≤ 4000) (EpB : Exa Z h0 sB "java/lang/String") (CpB : Fld Z h0 sB "java/lang/String" "coder" "B" (.int 0)) (VpB : Fld Z h0 sB "java/lang/String" "value" "[B" (.ref tB)) (ApB : Arv Z h0 tB kbB .byte (Int32.ofNat (ds).length) (((ds).map (fun c => c.toInt8.toInt32)).map Value.int) (.int 0)) (hppB : ∀ c ∈ ds, ¬ c < 0 ∧ ¬ (255 : Int32) < c) (l2pB : (ds).length ≤ 4000) (ecs : cs = ([a0_, a1_] : List Int32)) (eds : ds = ([b0_, b1_] : List Int32)) (hr : r = if own_fits a0_ b0_ = 0 then (0 : Int32) else if own_fits a1_ b1_ = 0 then (0 : Int32) else (1 : Int32)) :
    MetFree l (⟨"com/example/hebelwerk/hebelwerk/io/FixedForm", "matches", "(Ljava/lang/String;)Z"⟩ : MethodName) (head1 (Jvm.Cond.code (⟨"com/example/hebelwerk/hebelwerk/io/FixedForm", "matches", "(Ljava/lang/String;)Z"⟩ : MethodName) prog_68_method_2_code 6 (some .boolean) :: ws) ({ frames := 4, cells := 0, slots := 0, locals := 53 } : Room)) (fun a_ U_ => a_ = #[(.ref a), (.ref sB)] ∧ Z.Warmed39 U_.vm ∧ U_.heap = h0) (fun _ _ _ _ _ => True) (fun _ U_ o_ U'_ => ∃ v_ L_, o_ = .returned v_ ∧ QR (.int r) h0 n0 v_ U'_.heap L_ ∧ FrameEnd U_ o_ U'_ L_ ({ frames := 4, cells := 0, slots := 0, locals := 53 } : Room).cells ({ frames := 4, cells := 0, slots := 0, locals := 53 } : Room).slots) := by
  refine MetFree.of_bodySF (plainFor_of_name pn_2) hisR ?_
  intro p e s m args below meth c s₁ Bd hml0 hP hK
  obtain ⟨rfl, hZ, hh⟩ := hP
  have hx := Bd.exec
  have hby := Bd.bytes
  have hml : c.maxLocals = 6 := hml0
  have hown : s.vm.findClass "com/example/hebelwerk/hebelwerk/io/FixedForm" = some m.cls := findClass_of_methodNamed Bd.named
  have hnm := (name_of_methodNamed Bd.named Bd.method).1
  have hlk := BodyLoose.notSynchronized Bd
  have X0 : Stand p l e ({ frames := 4, cells := 0, slots := 0, locals := 53 } : Room) s m #[(.ref a), (.ref sB)] below meth c s₁ [] 0 0 := Stand.of_body Bd
  have e0 : s₁.heap = h0 := by rw [← hh, Bd.state]; rfl
  have N0 := Fr.nil n0
  refine own_entry (P := own_End s (QR (.int r) h0 n0) ({ frames := 4, cells := 0, slots := 0, locals := 53 } : Room).cells ({ frames := 4, cells := 0, slots := 0, locals := 53 } : Room).slots) (ef_rmM2 m a sB) ?_
  show own_Go p e below _ s₁ (mkF m 0 #[.val (.ref a), .val (.ref sB), .unset, .unset, .unset, .unset] [])
  subst ecs
  subst eds
  refine own_st (fun t_ k_ => XS.aloadN X0.here hx rfl (hb hby d9_0) rfl rfl k_) ?_
  show own_Go p e below _ s₁ (mkF m 1 #[.val (.ref a), .val (.ref sB), .unset, .unset, .unset, .unset] [(.ref sB)])
  obtain ⟨cq2, kq2, q2a, q2b, q2c⟩ := isOf hZ e0 EpB
  refine own_callV X0 hx (y := (⟨"java/lang/String", "length", "()I"⟩ : MethodName)) (z := (⟨"java/lang/String", "length", "()I"⟩ : MethodName)) hown (mvT hZ (hw _ (List.mem_of_getElem? (i := 46) rfl))) (mvT hZ (hw _ (List.mem_of_getElem? (i := 47) rfl))) (notFace_of_selects (args := #[]) (mvT hZ (hw _ (List.mem_of_getElem? (i := 49) rfl)))) (mvT hZ (hw _ (List.mem_of_getElem? (i := 49) rfl))) (mvT hZ (hw _ (List.mem_of_getElem? (i := 48) rfl))) (by decide) (own_intB rfl (StrChars.Road.lenW (W := 0) hZ (own_wLen hw) (kI := 4) (hw _ (List.mem_of_getElem? (i := 11) rfl)) (cs := ([b0_, b1_] : List Int32)) EpB VpB CpB ApB (StrChars.Road.codOf rfl (fun c hc => (hppB c hc).2)) (own_up hppB) (Sta.ext O0.2 SC) hCS l2pB (by decide) (by decide))) q2a q2c (g := (mkF m 1 #[.val (.ref a), .val (.ref sB), .unset, .unset, .unset, .unset] [(.ref sB)])) rfl (by rw [hml]; rfl) (argsL := []) (rest := []) (lenOf pd_2 rfl) rfl (by show 2 * 0 + _ ≤ _; exact Nat.le_of_eq rfl) (hb hby d9_1) rfl e0 (by decide) (by decide) ?_
  rintro v1 T1 L1 X1 ⟨rfl, rfl, hh1⟩
  have Nq1 := Fr.nil n0
  have N1 := Fr.app N0 Nq1
  show own_Go p e below _ T1 (mkF m 4 #[.val (.ref a), .val (.ref sB), .unset, .unset, .unset, .unset] [(.int (2 : Int32))])
  refine own_st (fun t_ k_ => XS.aloadN X1.here hx rfl (hb hby d9_4) rfl rfl k_) ?_
  show own_Go p e below _ T1 (mkF m 5 #[.val (.ref a), .val (.ref sB), .unset, .unset, .unset, .unset] [(.ref a), (.int (2 : Int32))])
  obtain ⟨T3, X3, e3, st3⟩ := getF X1 hx hZ hown (host := "") (Or.inl (hw _ (List.mem_of_getElem? (i := 39) rfl))) Via.refl hh1 Fa (g := (mkF m 5 #[.val (.ref a), .val (.ref sB), .unset, .unset, .unset, .unset] [(.ref a), (.int (2 : Int32))])) rfl rfl (hb hby d9_5)
  refine own_st st3 ?_
  show own_Go p e below _ T3 (mkF m 8 #[.val (.ref a), .val (.ref sB), .unset, .unset, .unset, .unset] [(.ref sA), (.int (2 : Int32))])
  obtain ⟨cq5, kq5, q5a, q5b, q5c⟩ := isOf hZ e3 EpA
  refine own_callV X3 hx (y := (⟨"java/lang/String", "length", "()I"⟩ : MethodName)) (z := (⟨"java/lang/String", "length", "()I"⟩ : MethodName)) hown (mvT hZ (hw _ (List.mem_of_getElem? (i := 46) rfl))) (mvT hZ (hw _ (List.mem_of_getElem? (i := 47) rfl))) (notFace_of_selects (args := #[]) (mvT hZ (hw _ (List.mem_of_getElem? (i := 49) rfl)))) (mvT hZ (hw _ (List.mem_of_getElem? (i := 49) rfl))) (mvT hZ (hw _ (List.mem_of_getElem? (i := 48) rfl))) (by decide) (own_intB rfl (StrChars.Road.lenW (W := 1) hZ (own_wLen hw) (kI := 4) (hw _ (List.mem_of_getElem? (i := 11) rfl)) (cs := ([a0_, a1_] : List Int32)) EpA VpA CpA ApA (StrChars.Road.codOf rfl (fun c hc => (hppA c hc).2)) (own_up hppA) (Sta.ext O0.2 SC) hCS l2pA (by decide) (by decide))) q5a q5c (g := (mkF m 8 #[.val (.ref a), .val (.ref sB), .unset, .unset, .unset, .unset] [(.ref sA), (.int (2 : Int32))])) rfl (by rw [hml]; rfl) (argsL := []) (rest := [(.int (2 : Int32))]) (lenOf pd_2 rfl) rfl (by show 2 * 0 + _ ≤ _; exact Nat.le_of_eq rfl) (hb hby d9_8) rfl e3 (by decide) (by decide) ?_
  rintro v4 T4 L4 X4 ⟨rfl, rfl, hh4⟩
  have Nq4 := Fr.nil n0
  have N4 := Fr.app N1 Nq4
  show own_Go p e below _ T4 (mkF m 11 #[.val (.ref a), .val (.ref sB), .unset, .unset, .unset, .unset] [(.int (2 : Int32)), (.int (2 : Int32))])
  refine own_st (fun t_ k_ => XS.icmpYes X4.here hx rfl (pc0 := 11) (pc' := 16) rfl (hb hby d9_11) rfl (by decide) (by decide) (by decide) k_) ?_
  show own_Go p e below _ T4 (mkF m 16 #[.val (.ref a), .val (.ref sB), .unset, .unset, .unset, .unset] [])
  refine own_st (fun t_ k_ => XS.iconst X4.here hx rfl (hb hby d9_16) k_) ?_
  show own_Go p e below _ T4 (mkF m 17 #[.val (.ref a), .val (.ref sB), .unset, .unset, .unset, .unset] [(.int (0 : Int32))])
  refine own_st (fun t_ k_ => XS.istoreN X4.here hx rfl (hb hby d9_17) rfl (l' := #[.val (.ref a), .val (.ref sB), .val (.int (0 : Int32)), .unset, .unset, .unset]) rfl k_) ?_
  show own_Go p e below _ T4 (mkF m 18 #[.val (.ref a), .val (.ref sB), .val (.int (0 : Int32)), .unset, .unset, .unset] [])
  refine own_st (fun t_ k_ => XS.iloadN X4.here hx rfl (hb hby d9_18) rfl k_) ?_
  show own_Go p e below _ T4 (mkF m 19 #[.val (.ref a), .val (.ref sB), .val (.int (0 : Int32)), .unset, .unset, .unset] [(.int (0 : Int32))])
  refine own_st (fun t_ k_ => XS.aloadN X4.here hx rfl (hb hby d9_19) rfl rfl k_) ?_
  show own_Go p e below _ T4 (mkF m 20 #[.val (.ref a), .val (.ref sB), .val (.int (0 : Int32)), .unset, .unset, .unset] [(.ref a), (.int (0 : Int32))])
  obtain ⟨T6, X6, e6, st6⟩ := getF X4 hx hZ hown (host := "") (Or.inl (hw _ (List.mem_of_getElem? (i := 39) rfl))) Via.refl hh4 Fa (g := (mkF m 20 #[.val (.ref a), .val (.ref sB), .val (.int (0 : Int32)), .unset, .unset, .unset] [(.ref a), (.int (0 : Int32))])) rfl rfl (hb hby d9_20)
  refine own_st st6 ?_
  show own_Go p e below _ T6 (mkF m 23 #[.val (.ref a), .val (.ref sB), .val (.int (0 : Int32)), .unset, .unset, .unset] [(.ref sA), (.int (0 : Int32))])
  obtain ⟨cq8, kq8, q8a, q8b, q8c⟩ := isOf hZ e6 EpA
  refine own_callV X6 hx (y := (⟨"java/lang/String", "length", "()I"⟩ : MethodName)) (z := (⟨"java/lang/String", "length", "()I"⟩ : MethodName)) hown (mvT hZ (hw _ (List.mem_of_getElem? (i := 46) rfl))) (mvT hZ (hw _ (List.mem_of_getElem? (i := 47) rfl))) (notFace_of_selects (args := #[]) (mvT hZ (hw _ (List.mem_of_getElem? (i := 49) rfl)))) (mvT hZ (hw _ (List.mem_of_getElem? (i := 49) rfl))) (mvT hZ (hw _ (List.mem_of_getElem? (i := 48) rfl))) (by decide) (own_intB rfl (StrChars.Road.lenW (W := 1) hZ (own_wLen hw) (kI := 4) (hw _ (List.mem_of_getElem? (i := 11) rfl)) (cs := ([a0_, a1_] : List Int32)) EpA VpA CpA ApA (StrChars.Road.codOf rfl (fun c hc => (hppA c hc).2)) (own_up hppA) (Sta.ext O0.2 SC) hCS l2pA (by decide) (by decide))) q8a q8c (g := (mkF m 23 #[.val (.ref a), .val (.ref sB), .val (.int (0 : Int32)), .unset, .unset, .unset] [(.ref sA), (.int (0 : Int32))])) rfl (by rw [hml]; rfl) (argsL := []) (rest := [(.int (0 : Int32))]) (lenOf pd_2 rfl) rfl (by show 2 * 0 + _ ≤ _; exact Nat.le_of_eq rfl) (hb hby d9_23) rfl e6 (by decide) (by decide) ?_
  rintro v7 T7 L7 X7 ⟨rfl, rfl, hh7⟩
  have Nq7 := Fr.nil n0
  have N7 := Fr.app N4 Nq7
  show own_Go p e below _ T7 (mkF m 26 #[.val (.ref a), .val (.ref sB), .val (.int (0 : Int32)), .unset, .unset, .unset] [(.int (2 : Int32)), (.int (0 : Int32))])
  refine own_st (fun t_ k_ => XS.icmpNo X7.here hx rfl (hb hby d9_26) rfl (by decide) k_) ?_
  show own_Go p e below _ T7 (mkF m 29 #[.val (.ref a), .val (.ref sB), .val (.int (0 : Int32)), .unset, .unset, .unset] [])
  refine own_st (fun t_ k_ => XS.aloadN X7.here hx rfl (hb hby d9_29) rfl rfl k_) ?_
  show own_Go p e below _ T7 (mkF m 30 #[.val (.ref a), .val (.ref sB), .val (.int (0 : Int32)), .unset, .unset, .unset] [(.ref a)])
  obtain ⟨T9, X9, e9, st9⟩ := getF X7 hx hZ hown (host := "") (Or.inl (hw _ (List.mem_of_getElem? (i := 39) rfl))) Via.refl hh7 Fa (g := (mkF m 30 #[.val (.ref a), .val (.ref sB), .val (.int (0 : Int32)), .unset, .unset, .unset] [(.ref a)])) rfl rfl (hb hby d9_30)
  refine own_st st9 ?_
  show own_Go p e below _ T9 (mkF m 33 #[.val (.ref a), .val (.ref sB), .val (.int (0 : Int32)), .unset, .unset, .unset] [(.ref sA)])
  refine own_st (fun t_ k_ => XS.iloadN X9.here hx rfl (hb hby d9_33) rfl k_) ?_
  show own_Go p e below _ T9 (mkF m 34 #[.val (.ref a), .val (.ref sB), .val (.int (0 : Int32)), .unset, .unset, .unset] [(.int (0 : Int32)), (.ref sA)])
  obtain ⟨cq11, kq11, q11a, q11b, q11c⟩ := isOf hZ e9 EpA
  refine own_callV X9 hx (y := (⟨"java/lang/String", "charAt", "(I)C"⟩ : MethodName)) (z := (⟨"java/lang/String", "charAt", "(I)C"⟩ : MethodName)) hown (mvT hZ (hw _ (List.mem_of_getElem? (i := 70) rfl))) (mvT hZ (hw _ (List.mem_of_getElem? (i := 71) rfl))) (notFace_of_selects (args := #[]) (mvT hZ (hw _ (List.mem_of_getElem? (i := 73) rfl)))) (mvT hZ (hw _ (List.mem_of_getElem? (i := 73) rfl))) (mvT hZ (hw _ (List.mem_of_getElem? (i := 72) rfl))) (by decide) (own_intB rfl (StrChars.Road.chN (W := 0) hZ (own_wChN hw) (kI := 4) (hw _ (List.mem_of_getElem? (i := 11) rfl)) (cs := ([a0_, a1_] : List Int32)) EpA VpA CpA ApA (StrChars.Road.codOf rfl (fun c hc => (hppA c hc).2)) (own_up hppA) (Sta.ext O0.2 SC) hCS (Sta.ext O0.2 SF) rG l2pA (i := 0) (Nat.le_of_ble_eq_true rfl) (j := (0 : Int32)) rfl (by decide) (by decide))) q11a q11c (g := (mkF m 34 #[.val (.ref a), .val (.ref sB), .val (.int (0 : Int32)), .unset, .unset, .unset] [(.int (0 : Int32)), (.ref sA)])) rfl (by rw [hml]; rfl) (argsL := [(.int (0 : Int32))]) (rest := []) (lenOf pd_3 rfl) rfl (by show 2 * 0 + _ ≤ _; exact Nat.le_of_eq rfl) (hb hby d9_34) rfl e9 (by decide) (by decide) ?_
  rintro v10 T10 L10 X10 ⟨rfl, rfl, hh10⟩
  have Nq10 := Fr.nil n0
  have N10 := Fr.app N7 Nq10
  show own_Go p e below _ T10 (mkF m 37 #[.val (.ref a), .val (.ref sB), .val (.int (0 : Int32)), .unset, .unset, .unset] [(.int a0_)])
  refine own_st (fun t_ k_ => XS.istoreN X10.here hx rfl (hb hby d9_37) rfl (l' := #[.val (.ref a), .val (.ref sB), .val (.int (0 : Int32)), .val (.int a0_), .unset, .unset]) rfl k_) ?_
  show own_Go p e below _ T10 (mkF m 38 #[.val (.ref a), .val (.ref sB), .val (.int (0 : Int32)), .val (.int a0_), .unset, .unset] [])
  refine own_st (fun t_ k_ => XS.aloadN X10.here hx rfl (hb hby d9_38) rfl rfl k_) ?_
  show own_Go p e below _ T10 (mkF m 39 #[.val (.ref a), .val (.ref sB), .val (.int (0 : Int32)), .val (.int a0_), .unset, .unset] [(.ref sB)])
  refine own_st (fun t_ k_ => XS.iloadN X10.here hx rfl (hb hby d9_39) rfl k_) ?_
  show own_Go p e below _ T10 (mkF m 40 #[.val (.ref a), .val (.ref sB), .val (.int (0 : Int32)), .val (.int a0_), .unset, .unset] [(.int (0 : Int32)), (.ref sB)])
  obtain ⟨cq13, kq13, q13a, q13b, q13c⟩ := isOf hZ hh10 EpB
  refine own_callV X10 hx (y := (⟨"java/lang/String", "charAt", "(I)C"⟩ : MethodName)) (z := (⟨"java/lang/String", "charAt", "(I)C"⟩ : MethodName)) hown (mvT hZ (hw _ (List.mem_of_getElem? (i := 70) rfl))) (mvT hZ (hw _ (List.mem_of_getElem? (i := 71) rfl))) (notFace_of_selects (args := #[]) (mvT hZ (hw _ (List.mem_of_getElem? (i := 73) rfl)))) (mvT hZ (hw _ (List.mem_of_getElem? (i := 73) rfl))) (mvT hZ (hw _ (List.mem_of_getElem? (i := 72) rfl))) (by decide) (own_intB rfl (StrChars.Road.chN (W := 0) hZ (own_wChN hw) (kI := 4) (hw _ (List.mem_of_getElem? (i := 11) rfl)) (cs := ([b0_, b1_] : List Int32)) EpB VpB CpB ApB (StrChars.Road.codOf rfl (fun c hc => (hppB c hc).2)) (own_up hppB) (Sta.ext O0.2 SC) hCS (Sta.ext O0.2 SF) rG l2pB (i := 0) (Nat.le_of_ble_eq_true rfl) (j := (0 : Int32)) rfl (by decide) (by decide))) q13a q13c (g := (mkF m 40 #[.val (.ref a), .val (.ref sB), .val (.int (0 : Int32)), .val (.int a0_), .unset, .unset] [(.int (0 : Int32)), (.ref sB)])) rfl (by rw [hml]; rfl) (argsL := [(.int (0 : Int32))]) (rest := []) (lenOf pd_3 rfl) rfl (by show 2 * 0 + _ ≤ _; exact Nat.le_of_eq rfl) (hb hby d9_40) rfl hh10 (by decide) (by decide) ?_
  rintro v12 T12 L12 X12 ⟨rfl, rfl, hh12⟩
  have Nq12 := Fr.nil n0
  have N12 := Fr.app N10 Nq12
  show own_Go p e below _ T12 (mkF m 43 #[.val (.ref a), .val (.ref sB), .val (.int (0 : Int32)), .val (.int a0_), .unset, .unset] [(.int b0_)])
  refine own_st (fun t_ k_ => XS.istore X12.here hx rfl (hb hby d9_43) rfl (l' := #[.val (.ref a), .val (.ref sB), .val (.int (0 : Int32)), .val (.int a0_), .val (.int b0_), .unset]) rfl k_) ?_
  show own_Go p e below _ T12 (mkF m 45 #[.val (.ref a), .val (.ref sB), .val (.int (0 : Int32)), .val (.int a0_), .val (.int b0_), .unset] [])
  refine own_st (fun t_ k_ => XS.iloadN X12.here hx rfl (hb hby d9_45) rfl k_) ?_
  show own_Go p e below _ T12 (mkF m 46 #[.val (.ref a), .val (.ref sB), .val (.int (0 : Int32)), .val (.int a0_), .val (.int b0_), .unset] [(.int a0_)])
  refine own_callS X12 hx (y := (⟨"com/example/hebelwerk/hebelwerk/io/FixedForm", "isCapital", "(C)Z"⟩ : MethodName)) hown (mvT hZ (hw _ (List.mem_of_getElem? (i := 92) rfl))) (mvT hZ (hw _ (List.mem_of_getElem? (i := 93) rfl))) (mvT hZ (hw _ (List.mem_of_getElem? (i := 34) rfl))) (mvT hZ (hw _ (List.mem_of_getElem? (i := 94) rfl))) (by decide) (backOf (W := 0) (rmIC l Z a0 hw [] a0_ h0 n0 (Nat.le_trans Z0 (Keep.refl h0 []).1)) hZ (hw _ (List.mem_of_getElem? (i := 94) rfl)) (hw _ (List.mem_of_getElem? (i := 34) rfl)) (by decide) (by decide)) (g := (mkF m 46 #[.val (.ref a), .val (.ref sB), .val (.int (0 : Int32)), .val (.int a0_), .val (.int b0_), .unset] [(.int a0_)])) rfl (by rw [hml]; rfl) (argsL := [(.int a0_)]) (rest := []) (lenOf pd_4 rfl) rfl (by show 2 * 0 + _ ≤ _; exact Nat.le_of_eq rfl) (hb hby d9_46) rfl hh12 (by decide) (by decide) ?_
  rintro v14 T14 L14 X14 ⟨rfl, Nq14, hh14⟩
  have N14 := Fr.app N12 Nq14
  show own_Go p e below _ T14 (mkF m 49 #[.val (.ref a), .val (.ref sB), .val (.int (0 : Int32)), .val (.int a0_), .val (.int b0_), .unset] [(.int (own_cap a0_))])
  refine own_join (α := Int32) (F := fun f0_ => f0_ = own_fits a0_ b0_) (T' := T14) (g' := fun f0_ => (mkF m 85 #[.val (.ref a), .val (.ref sB), .val (.int (0 : Int32)), .val (.int a0_), .val (.int b0_), .unset] [(.int f0_)])) (fun f0_ h_f0_ => ?_) (fun J_f0_ => ?_)
  · show own_Go p e below _ T14 (mkF m 85 #[.val (.ref a), .val (.ref sB), .val (.int (0 : Int32)), .val (.int a0_), .val (.int b0_), .unset] [(.int f0_)])
    subst h_f0_
    show own_Go p e below _ T14 (mkF m 85 #[.val (.ref a), .val (.ref sB), .val (.int (0 : Int32)), .val (.int a0_), .val (.int b0_), .unset] [(.int (own_fits a0_ b0_))])
    refine own_st (fun t_ k_ => XS.istore X14.here hx rfl (hb hby d9_85) rfl (l' := #[.val (.ref a), .val (.ref sB), .val (.int (0 : Int32)), .val (.int a0_), .val (.int b0_), .val (.int (own_fits a0_ b0_))]) rfl k_) ?_
    show own_Go p e below _ T14 (mkF m 87 #[.val (.ref a), .val (.ref sB), .val (.int (0 : Int32)), .val (.int a0_), .val (.int b0_), .val (.int (own_fits a0_ b0_))] [])
    refine own_st (fun t_ k_ => XS.iload X14.here hx rfl (hb hby d9_87) rfl k_) ?_
    show own_Go p e below _ T14 (mkF m 89 #[.val (.ref a), .val (.ref sB), .val (.int (0 : Int32)), .val (.int a0_), .val (.int b0_), .val (.int (own_fits a0_ b0_))] [(.int (own_fits a0_ b0_))])
    by_cases hz0_ : (own_fits a0_ b0_) = (0 : Int32)
    · refine own_st (fun t_ k_ => XS.ifNo X14.here hx rfl (hb hby d9_89) rfl ((if0 _ _).trans (teq hz0_).2) k_) ?_
      show own_Go p e below _ T14 (mkF m 92 #[.val (.ref a), .val (.ref sB), .val (.int (0 : Int32)), .val (.int a0_), .val (.int b0_), .val (.int (own_fits a0_ b0_))] [])
      refine own_st (fun t_ k_ => XS.iconst X14.here hx rfl (hb hby d9_92) k_) ?_
      show own_Go p e below _ T14 (mkF m 93 #[.val (.ref a), .val (.ref sB), .val (.int (0 : Int32)), .val (.int a0_), .val (.int b0_), .val (.int (own_fits a0_ b0_))] [(.int (0 : Int32))])
      refine own_retN X14 hx hlk (t := .boolean) Bd.returns (by simp) (hb hby d9_93) ?_ (by decide) (by decide)
      show QR (.int r) h0 n0 _ T14.heap _
      rw [hh14]
      exact ⟨by rw [hr, if_pos hz0_]; rfl, N14, rfl⟩
    · refine own_st (fun t_ k_ => XS.ifYes X14.here hx rfl (pc0 := 89) (pc' := 94) rfl (hb hby d9_89) rfl ((if0 _ _).trans (feq hz0_).2) (by decide) (by decide) k_) ?_
      show own_Go p e below _ T14 (mkF m 94 #[.val (.ref a), .val (.ref sB), .val (.int (0 : Int32)), .val (.int a0_), .val (.int b0_), .val (.int (own_fits a0_ b0_))] [])
      refine own_st (fun t_ k_ => XS.iinc X14.here hx rfl (hb hby d9_94) rfl (l' := #[.val (.ref a), .val (.ref sB), .val (.int (1 : Int32)), .val (.int a0_), .val (.int b0_), .val (.int (own_fits a0_ b0_))]) rfl k_) ?_
      show own_Go p e below _ T14 (mkF m 97 #[.val (.ref a), .val (.ref sB), .val (.int (1 : Int32)), .val (.int a0_), .val (.int b0_), .val (.int (own_fits a0_ b0_))] [])
      refine own_st (fun t_ k_ => XS.goto X14.here hx rfl (pc0 := 97) (pc' := 18) rfl (hb hby d9_97) (by decide) (by decide) k_) ?_
      show own_Go p e below _ T14 (mkF m 18 #[.val (.ref a), .val (.ref sB), .val (.int (1 : Int32)), .val (.int a0_), .val (.int b0_), .val (.int (own_fits a0_ b0_))] [])
      refine own_st (fun t_ k_ => XS.iloadN X14.here hx rfl (hb hby d9_18) rfl k_) ?_
      show own_Go p e below _ T14 (mkF m 19 #[.val (.ref a), .val (.ref sB), .val (.int (1 : Int32)), .val (.int a0_), .val (.int b0_), .val (.int (own_fits a0_ b0_))] [(.int (1 : Int32))])
      refine own_st (fun t_ k_ => XS.aloadN X14.here hx rfl (hb hby d9_19) rfl rfl k_) ?_
      show own_Go p e below _ T14 (mkF m 20 #[.val (.ref a), .val (.ref sB), .val (.int (1 : Int32)), .val (.int a0_), .val (.int b0_), .val (.int (own_fits a0_ b0_))] [(.ref a), (.int (1 : Int32))])
      obtain ⟨T18, X18, e18, st18⟩ := getF X14 hx hZ hown (host := "") (Or.inl (hw _ (List.mem_of_getElem? (i := 39) rfl))) Via.refl hh14 Fa (g := (mkF m 20 #[.val (.ref a), .val (.ref sB), .val (.int (1 : Int32)), .val (.int a0_), .val (.int b0_), .val (.int (own_fits a0_ b0_))] [(.ref a), (.int (1 : Int32))])) rfl rfl (hb hby d9_20)
      refine own_st st18 ?_
      show own_Go p e below _ T18 (mkF m 23 #[.val (.ref a), .val (.ref sB), .val (.int (1 : Int32)), .val (.int a0_), .val (.int b0_), .val (.int (own_fits a0_ b0_))] [(.ref sA), (.int (1 : Int32))])
      obtain ⟨cq20, kq20, q20a, q20b, q20c⟩ := isOf hZ e18 EpA
      refine own_callV X18 hx (y := (⟨"java/lang/String", "length", "()I"⟩ : MethodName)) (z := (⟨"java/lang/String", "length", "()I"⟩ : MethodName)) hown (mvT hZ (hw _ (List.mem_of_getElem? (i := 46) rfl))) (mvT hZ (hw _ (List.mem_of_getElem? (i := 47) rfl))) (notFace_of_selects (args := #[]) (mvT hZ (hw _ (List.mem_of_getElem? (i := 49) rfl)))) (mvT hZ (hw _ (List.mem_of_getElem? (i := 49) rfl))) (mvT hZ (hw _ (List.mem_of_getElem? (i := 48) rfl))) (by decide) (own_intB rfl (StrChars.Road.lenW (W := 1) hZ (own_wLen hw) (kI := 4) (hw _ (List.mem_of_getElem? (i := 11) rfl)) (cs := ([a0_, a1_] : List Int32)) EpA VpA CpA ApA (StrChars.Road.codOf rfl (fun c hc => (hppA c hc).2)) (own_up hppA) (Sta.ext O0.2 SC) hCS l2pA (by decide) (by decide))) q20a q20c (g := (mkF m 23 #[.val (.ref a), .val (.ref sB), .val (.int (1 : Int32)), .val (.int a0_), .val (.int b0_), .val (.int (own_fits a0_ b0_))] [(.ref sA), (.int (1 : Int32))])) rfl (by rw [hml]; rfl) (argsL := []) (rest := [(.int (1 : Int32))]) (lenOf pd_2 rfl) rfl (by show 2 * 0 + _ ≤ _; exact Nat.le_of_eq rfl) (hb hby d9_23) rfl e18 (by decide) (by decide) ?_
      rintro v19 T19 L19 X19 ⟨rfl, rfl, hh19⟩
      have Nq19 := Fr.nil n0
      have N19 := Fr.app N14 Nq19
      show own_Go p e below _ T19 (mkF m 26 #[.val (.ref a), .val (.ref sB), .val (.int (1 : Int32)), .val (.int a0_), .val (.int b0_), .val (.int (own_fits a0_ b0_))] [(.int (2 : Int32)), (.int (1 : Int32))])
      refine own_st (fun t_ k_ => XS.icmpNo X19.here hx rfl (hb hby d9_26) rfl (by decide) k_) ?_
      show own_Go p e below _ T19 (mkF m 29 #[.val (.ref a), .val (.ref sB), .val (.int (1 : Int32)), .val (.int a0_), .val (.int b0_), .val (.int (own_fits a0_ b0_))] [])
      refine own_st (fun t_ k_ => XS.aloadN X19.here hx rfl (hb hby d9_29) rfl rfl k_) ?_
      show own_Go p e below _ T19 (mkF m 30 #[.val (.ref a), .val (.ref sB), .val (.int (1 : Int32)), .val (.int a0_), .val (.int b0_), .val (.int (own_fits a0_ b0_))] [(.ref a)])
      obtain ⟨T21, X21, e21, st21⟩ := getF X19 hx hZ hown (host := "") (Or.inl (hw _ (List.mem_of_getElem? (i := 39) rfl))) Via.refl hh19 Fa (g := (mkF m 30 #[.val (.ref a), .val (.ref sB), .val (.int (1 : Int32)), .val (.int a0_), .val (.int b0_), .val (.int (own_fits a0_ b0_))] [(.ref a)])) rfl rfl (hb hby d9_30)
      refine own_st st21 ?_
      show own_Go p e below _ T21 (mkF m 33 #[.val (.ref a), .val (.ref sB), .val (.int (1 : Int32)), .val (.int a0_), .val (.int b0_), .val (.int (own_fits a0_ b0_))] [(.ref sA)])
      refine own_st (fun t_ k_ => XS.iloadN X21.here hx rfl (hb hby d9_33) rfl k_) ?_
      show own_Go p e below _ T21 (mkF m 34 #[.val (.ref a), .val (.ref sB), .val (.int (1 : Int32)), .val (.int a0_), .val (.int b0_), .val (.int (own_fits a0_ b0_))] [(.int (1 : Int32)), (.ref sA)])
      obtain ⟨cq23, kq23, q23a, q23b, q23c⟩ := isOf hZ e21 EpA
      refine own_callV X21 hx (y := (⟨"java/lang/String", "charAt", "(I)C"⟩ : MethodName)) (z := (⟨"java/lang/String", "charAt", "(I)C"⟩ : MethodName)) hown (mvT hZ (hw _ (List.mem_of_getElem? (i := 70) rfl))) (mvT hZ (hw _ (List.mem_of_getElem? (i := 71) rfl))) (notFace_of_selects (args := #[]) (mvT hZ (hw _ (List.mem_of_getElem? (i := 73) rfl)))) (mvT hZ (hw _ (List.mem_of_getElem? (i := 73) rfl))) (mvT hZ (hw _ (List.mem_of_getElem? (i := 72) rfl))) (by decide) (own_intB rfl (StrChars.Road.chN (W := 0) hZ (own_wChN hw) (kI := 4) (hw _ (List.mem_of_getElem? (i := 11) rfl)) (cs := ([a0_, a1_] : List Int32)) EpA VpA CpA ApA (StrChars.Road.codOf rfl (fun c hc => (hppA c hc).2)) (own_up hppA) (Sta.ext O0.2 SC) hCS (Sta.ext O0.2 SF) rG l2pA (i := 1) (Nat.le_of_ble_eq_true rfl) (j := (1 : Int32)) rfl (by decide) (by decide))) q23a q23c (g := (mkF m 34 #[.val (.ref a), .val (.ref sB), .val (.int (1 : Int32)), .val (.int a0_), .val (.int b0_), .val (.int (own_fits a0_ b0_))] [(.int (1 : Int32)), (.ref sA)])) rfl (by rw [hml]; rfl) (argsL := [(.int (1 : Int32))]) (rest := []) (lenOf pd_3 rfl) rfl (by show 2 * 0 + _ ≤ _; exact Nat.le_of_eq rfl) (hb hby d9_34) rfl e21 (by decide) (by decide) ?_
      rintro v22 T22 L22 X22 ⟨rfl, rfl, hh22⟩
      have Nq22 := Fr.nil n0
      have N22 := Fr.app N19 Nq22
      show own_Go p e below _ T22 (mkF m 37 #[.val (.ref a), .val (.ref sB), .val (.int (1 : Int32)), .val (.int a0_), .val (.int b0_), .val (.int (own_fits a0_ b0_))] [(.int a1_)])
      refine own_st (fun t_ k_ => XS.istoreN X22.here hx rfl (hb hby d9_37) rfl (l' := #[.val (.ref a), .val (.ref sB), .val (.int (1 : Int32)), .val (.int a1_), .val (.int b0_), .val (.int (own_fits a0_ b0_))]) rfl k_) ?_
      show own_Go p e below _ T22 (mkF m 38 #[.val (.ref a), .val (.ref sB), .val (.int (1 : Int32)), .val (.int a1_), .val (.int b0_), .val (.int (own_fits a0_ b0_))] [])
      refine own_st (fun t_ k_ => XS.aloadN X22.here hx rfl (hb hby d9_38) rfl rfl k_) ?_
      show own_Go p e below _ T22 (mkF m 39 #[.val (.ref a), .val (.ref sB), .val (.int (1 : Int32)), .val (.int a1_), .val (.int b0_), .val (.int (own_fits a0_ b0_))] [(.ref sB)])
      refine own_st (fun t_ k_ => XS.iloadN X22.here hx rfl (hb hby d9_39) rfl k_) ?_
      show own_Go p e below _ T22 (mkF m 40 #[.val (.ref a), .val (.ref sB), .val (.int (1 : Int32)), .val (.int a1_), .val (.int b0_), .val (.int (own_fits a0_ b0_))] [(.int (1 : Int32)), (.ref sB)])
      obtain ⟨cq25, kq25, q25a, q25b, q25c⟩ := isOf hZ hh22 EpB
      refine own_callV X22 hx (y := (⟨"java/lang/String", "charAt", "(I)C"⟩ : MethodName)) (z := (⟨"java/lang/String", "charAt", "(I)C"⟩ : MethodName)) hown (mvT hZ (hw _ (List.mem_of_getElem? (i := 70) rfl))) (mvT hZ (hw _ (List.mem_of_getElem? (i := 71) rfl))) (notFace_of_selects (args := #[]) (mvT hZ (hw _ (List.mem_of_getElem? (i := 73) rfl)))) (mvT hZ (hw _ (List.mem_of_getElem? (i := 73) rfl))) (mvT hZ (hw _ (List.mem_of_getElem? (i := 72) rfl))) (by decide) (own_intB rfl (StrChars.Road.chN (W := 0) hZ (own_wChN hw) (kI := 4) (hw _ (List.mem_of_getElem? (i := 11) rfl)) (cs := ([b0_, b1_] : List Int32)) EpB VpB CpB ApB (StrChars.Road.codOf rfl (fun c hc => (hppB c hc).2)) (own_up hppB) (Sta.ext O0.2 SC) hCS (Sta.ext O0.2 SF) rG l2pB (i := 1) (Nat.le_of_ble_eq_true rfl) (j := (1 : Int32)) rfl (by decide) (by decide))) q25a q25c (g := (mkF m 40 #[.val (.ref a), .val (.ref sB), .val (.int (1 : Int32)), .val (.int a1_), .val (.int b0_), .val (.int (own_fits a0_ b0_))] [(.int (1 : Int32)), (.ref sB)])) rfl (by rw [hml]; rfl) (argsL := [(.int (1 : Int32))]) (rest := []) (lenOf pd_3 rfl) rfl (by show 2 * 0 + _ ≤ _; exact Nat.le_of_eq rfl) (hb hby d9_40) rfl hh22 (by decide) (by decide) ?_
      rintro v24 T24 L24 X24 ⟨rfl, rfl, hh24⟩
      have Nq24 := Fr.nil n0
      have N24 := Fr.app N22 Nq24
      show own_Go p e below _ T24 (mkF m 43 #[.val (.ref a), .val (.ref sB), .val (.int (1 : Int32)), .val (.int a1_), .val (.int b0_), .val (.int (own_fits a0_ b0_))] [(.int b1_)])
      refine own_st (fun t_ k_ => XS.istore X24.here hx rfl (hb hby d9_43) rfl (l' := #[.val (.ref a), .val (.ref sB), .val (.int (1 : Int32)), .val (.int a1_), .val (.int b1_), .val (.int (own_fits a0_ b0_))]) rfl k_) ?_
      show own_Go p e below _ T24 (mkF m 45 #[.val (.ref a), .val (.ref sB), .val (.int (1 : Int32)), .val (.int a1_), .val (.int b1_), .val (.int (own_fits a0_ b0_))] [])
      refine own_st (fun t_ k_ => XS.iloadN X24.here hx rfl (hb hby d9_45) rfl k_) ?_
      show own_Go p e below _ T24 (mkF m 46 #[.val (.ref a), .val (.ref sB), .val (.int (1 : Int32)), .val (.int a1_), .val (.int b1_), .val (.int (own_fits a0_ b0_))] [(.int a1_)])
      refine own_callS X24 hx (y := (⟨"com/example/hebelwerk/hebelwerk/io/FixedForm", "isCapital", "(C)Z"⟩ : MethodName)) hown (mvT hZ (hw _ (List.mem_of_getElem? (i := 92) rfl))) (mvT hZ (hw _ (List.mem_of_getElem? (i := 93) rfl))) (mvT hZ (hw _ (List.mem_of_getElem? (i := 34) rfl))) (mvT hZ (hw _ (List.mem_of_getElem? (i := 94) rfl))) (by decide) (backOf (W := 0) (rmIC l Z a0 hw [] a1_ h0 n0 (Nat.le_trans Z0 (Keep.refl h0 []).1)) hZ (hw _ (List.mem_of_getElem? (i := 94) rfl)) (hw _ (List.mem_of_getElem? (i := 34) rfl)) (by decide) (by decide)) (g := (mkF m 46 #[.val (.ref a), .val (.ref sB), .val (.int (1 : Int32)), .val (.int a1_), .val (.int b1_), .val (.int (own_fits a0_ b0_))] [(.int a1_)])) rfl (by rw [hml]; rfl) (argsL := [(.int a1_)]) (rest := []) (lenOf pd_4 rfl) rfl (by show 2 * 0 + _ ≤ _; exact Nat.le_of_eq rfl) (hb hby d9_46) rfl hh24 (by decide) (by decide) ?_
      rintro v26 T26 L26 X26 ⟨rfl, Nq26, hh26⟩
      have N26 := Fr.app N24 Nq26
      show own_Go p e below _ T26 (mkF m 49 #[.val (.ref a), .val (.ref sB), .val (.int (1 : Int32)), .val (.int a1_), .val (.int b1_), .val (.int (own_fits a0_ b0_))] [(.int (own_cap a1_))])
      refine own_join (α := Int32) (F := fun f1_ => f1_ = own_fits a1_ b1_) (T' := T26) (g' := fun f1_ => (mkF m 85 #[.val (.ref a), .val (.ref sB), .val (.int (1 : Int32)), .val (.int a1_), .val (.int b1_), .val (.int (own_fits a0_ b0_))] [(.int f1_)])) (fun f1_ h_f1_ => ?_) (fun J_f1_ => ?_)
      · show own_Go p e below _ T26 (mkF m 85 #[.val (.ref a), .val (.ref sB), .val (.int (1 : Int32)), .val (.int a1_), .val (.int b1_), .val (.int (own_fits a0_ b0_))] [(.int f1_)])
        subst h_f1_
        show own_Go p e below _ T26 (mkF m 85 #[.val (.ref a), .val (.ref sB), .val (.int (1 : Int32)), .val (.int a1_), .val (.int b1_), .val (.int (own_fits a0_ b0_))] [(.int (own_fits a1_ b1_))])
        refine own_st (fun t_ k_ => XS.istore X26.here hx rfl (hb hby d9_85) rfl (l' := #[.val (.ref a), .val (.ref sB), .val (.int (1 : Int32)), .val (.int a1_), .val (.int b1_), .val (.int (own_fits a1_ b1_))]) rfl k_) ?_
        show own_Go p e below _ T26 (mkF m 87 #[.val (.ref a), .val (.ref sB), .val (.int (1 : Int32)), .val (.int a1_), .val (.int b1_), .val (.int (own_fits a1_ b1_))] [])
        refine own_st (fun t_ k_ => XS.iload X26.here hx rfl (hb hby d9_87) rfl k_) ?_
        show own_Go p e below _ T26 (mkF m 89 #[.val (.ref a), .val (.ref sB), .val (.int (1 : Int32)), .val (.int a1_), .val (.int b1_), .val (.int (own_fits a1_ b1_))] [(.int (own_fits a1_ b1_))])
        by_cases hz1_ : (own_fits a1_ b1_) = (0 : Int32)
        · refine own_st (fun t_ k_ => XS.ifNo X26.here hx rfl (hb hby d9_89) rfl ((if0 _ _).trans (teq hz1_).2) k_) ?_
          show own_Go p e below _ T26 (mkF m 92 #[.val (.ref a), .val (.ref sB), .val (.int (1 : Int32)), .val (.int a1_), .val (.int b1_), .val (.int (own_fits a1_ b1_))] [])
          refine own_st (fun t_ k_ => XS.iconst X26.here hx rfl (hb hby d9_92) k_) ?_
          show own_Go p e below _ T26 (mkF m 93 #[.val (.ref a), .val (.ref sB), .val (.int (1 : Int32)), .val (.int a1_), .val (.int b1_), .val (.int (own_fits a1_ b1_))] [(.int (0 : Int32))])
          refine own_retN X26 hx hlk (t := .boolean) Bd.returns (by simp) (hb hby d9_93) ?_ (by decide) (by decide)
          show QR (.int r) h0 n0 _ T26.heap _
          rw [hh26]
          exact ⟨by rw [hr, if_neg hz0_, if_pos hz1_]; rfl, N26, rfl⟩
        · refine own_st (fun t_ k_ => XS.ifYes X26.here hx rfl (pc0 := 89) (pc' := 94) rfl (hb hby d9_89) rfl ((if0 _ _).trans (feq hz1_).2) (by decide) (by decide) k_) ?_
          show own_Go p e below _ T26 (mkF m 94 #[.val (.ref a), .val (.ref sB), .val (.int (1 : Int32)), .val (.int a1_), .val (.int b1_), .val (.int (own_fits a1_ b1_))] [])
          refine own_st (fun t_ k_ => XS.iinc X26.here hx rfl (hb hby d9_94) rfl (l' := #[.val (.ref a), .val (.ref sB), .val (.int (2 : Int32)), .val (.int a1_), .val (.int b1_), .val (.int (own_fits a1_ b1_))]) rfl k_) ?_
          show own_Go p e below _ T26 (mkF m 97 #[.val (.ref a), .val (.ref sB), .val (.int (2 : Int32)), .val (.int a1_), .val (.int b1_), .val (.int (own_fits a1_ b1_))] [])
          refine own_st (fun t_ k_ => XS.goto X26.here hx rfl (pc0 := 97) (pc' := 18) rfl (hb hby d9_97) (by decide) (by decide) k_) ?_
          show own_Go p e below _ T26 (mkF m 18 #[.val (.ref a), .val (.ref sB), .val (.int (2 : Int32)), .val (.int a1_), .val (.int b1_), .val (.int (own_fits a1_ b1_))] [])
          refine own_st (fun t_ k_ => XS.iloadN X26.here hx rfl (hb hby d9_18) rfl k_) ?_
          show own_Go p e below _ T26 (mkF m 19 #[.val (.ref a), .val (.ref sB), .val (.int (2 : Int32)), .val (.int a1_), .val (.int b1_), .val (.int (own_fits a1_ b1_))] [(.int (2 : Int32))])
          refine own_st (fun t_ k_ => XS.aloadN X26.here hx rfl (hb hby d9_19) rfl rfl k_) ?_
          show own_Go p e below _ T26 (mkF m 20 #[.val (.ref a), .val (.ref sB), .val (.int (2 : Int32)), .val (.int a1_), .val (.int b1_), .val (.int (own_fits a1_ b1_))] [(.ref a), (.int (2 : Int32))])
          obtain ⟨T30, X30, e30, st30⟩ := getF X26 hx hZ hown (host := "") (Or.inl (hw _ (List.mem_of_getElem? (i := 39) rfl))) Via.refl hh26 Fa (g := (mkF m 20 #[.val (.ref a), .val (.ref sB), .val (.int (2 : Int32)), .val (.int a1_), .val (.int b1_), .val (.int (own_fits a1_ b1_))] [(.ref a), (.int (2 : Int32))])) rfl rfl (hb hby d9_20)
          refine own_st st30 ?_
          show own_Go p e below _ T30 (mkF m 23 #[.val (.ref a), .val (.ref sB), .val (.int (2 : Int32)), .val (.int a1_), .val (.int b1_), .val (.int (own_fits a1_ b1_))] [(.ref sA), (.int (2 : Int32))])
          obtain ⟨cq32, kq32, q32a, q32b, q32c⟩ := isOf hZ e30 EpA
          refine own_callV X30 hx (y := (⟨"java/lang/String", "length", "()I"⟩ : MethodName)) (z := (⟨"java/lang/String", "length", "()I"⟩ : MethodName)) hown (mvT hZ (hw _ (List.mem_of_getElem? (i := 46) rfl))) (mvT hZ (hw _ (List.mem_of_getElem? (i := 47) rfl))) (notFace_of_selects (args := #[]) (mvT hZ (hw _ (List.mem_of_getElem? (i := 49) rfl)))) (mvT hZ (hw _ (List.mem_of_getElem? (i := 49) rfl))) (mvT hZ (hw _ (List.mem_of_getElem? (i := 48) rfl))) (by decide) (own_intB rfl (StrChars.Road.lenW (W := 1) hZ (own_wLen hw) (kI := 4) (hw _ (List.mem_of_getElem? (i := 11) rfl)) (cs := ([a0_, a1_] : List Int32)) EpA VpA CpA ApA (StrChars.Road.codOf rfl (fun c hc => (hppA c hc).2)) (own_up hppA) (Sta.ext O0.2 SC) hCS l2pA (by decide) (by decide))) q32a q32c (g := (mkF m 23 #[.val (.ref a), .val (.ref sB), .val (.int (2 : Int32)), .val (.int a1_), .val (.int b1_), .val (.int (own_fits a1_ b1_))] [(.ref sA), (.int (2 : Int32))])) rfl (by rw [hml]; rfl) (argsL := []) (rest := [(.int (2 : Int32))]) (lenOf pd_2 rfl) rfl (by show 2 * 0 + _ ≤ _; exact Nat.le_of_eq rfl) (hb hby d9_23) rfl e30 (by decide) (by decide) ?_
          rintro v31 T31 L31 X31 ⟨rfl, rfl, hh31⟩
          have Nq31 := Fr.nil n0
          have N31 := Fr.app N26 Nq31
          show own_Go p e below _ T31 (mkF m 26 #[.val (.ref a), .val (.ref sB), .val (.int (2 : Int32)), .val (.int a1_), .val (.int b1_), .val (.int (own_fits a1_ b1_))] [(.int (2 : Int32)), (.int (2 : Int32))])
          refine own_st (fun t_ k_ => XS.icmpYes X31.here hx rfl (pc0 := 26) (pc' := 100) rfl (hb hby d9_26) rfl (by decide) (by decide) (by decide) k_) ?_
          show own_Go p e below _ T31 (mkF m 100 #[.val (.ref a), .val (.ref sB), .val (.int (2 : Int32)), .val (.int a1_), .val (.int b1_), .val (.int (own_fits a1_ b1_))] [])
          refine own_st (fun t_ k_ => XS.iconst X31.here hx rfl (hb hby d9_100) k_) ?_
          show own_Go p e below _ T31 (mkF m 101 #[.val (.ref a), .val (.ref sB), .val (.int (2 : Int32)), .val (.int a1_), .val (.int b1_), .val (.int (own_fits a1_ b1_))] [(.int (1 : Int32))])
          refine own_retN X31 hx hlk (t := .boolean) Bd.returns (by simp) (hb hby d9_101) ?_ (by decide) (by decide)
          show QR (.int r) h0 n0 _ T31.heap _
          rw [hh31]
          exact ⟨by rw [hr, if_neg hz0_, if_neg hz1_]; try rfl, N31, rfl⟩
      · show own_Go p e below _ T26 (mkF m 49 #[.val (.ref a), .val (.ref sB), .val (.int (1 : Int32)), .val (.int a1_), .val (.int b1_), .val (.int (own_fits a0_ b0_))] [(.int (own_cap a1_))])
        by_cases hcap : (own_cap a1_) = (0 : Int32)
        · refine own_st (fun t_ k_ => XS.ifYes X26.here hx rfl (pc0 := 49) (pc' := 74) rfl (hb hby d9_49) rfl ((if0 _ _).trans (teq hcap).1) (by decide) (by decide) k_) ?_
          show own_Go p e below _ T26 (mkF m 74 #[.val (.ref a), .val (.ref sB), .val (.int (1 : Int32)), .val (.int a1_), .val (.int b1_), .val (.int (own_fits a0_ b0_))] [])
          have hf_ := own_fc (b := b1_) hcap
          refine own_st (fun t_ k_ => XS.iload X26.here hx rfl (hb hby d9_74) rfl k_) ?_
          show own_Go p e below _ T26 (mkF m 76 #[.val (.ref a), .val (.ref sB), .val (.int (1 : Int32)), .val (.int a1_), .val (.int b1_), .val (.int (own_fits a0_ b0_))] [(.int b1_)])
          refine own_st (fun t_ k_ => XS.iloadN X26.here hx rfl (hb hby d9_76) rfl k_) ?_
          show own_Go p e below _ T26 (mkF m 77 #[.val (.ref a), .val (.ref sB), .val (.int (1 : Int32)), .val (.int a1_), .val (.int b1_), .val (.int (own_fits a0_ b0_))] [(.int a1_), (.int b1_)])
          by_cases hl27 : b1_ = a1_
          · refine own_st (fun t_ k_ => XS.icmpNo X26.here hx rfl (hb hby d9_77) rfl (teq hl27).2 k_) ?_
            show own_Go p e below _ T26 (mkF m 80 #[.val (.ref a), .val (.ref sB), .val (.int (1 : Int32)), .val (.int a1_), .val (.int b1_), .val (.int (own_fits a0_ b0_))] [])
            refine own_st (fun t_ k_ => XS.iconst X26.here hx rfl (hb hby d9_80) k_) ?_
            show own_Go p e below _ T26 (mkF m 81 #[.val (.ref a), .val (.ref sB), .val (.int (1 : Int32)), .val (.int a1_), .val (.int b1_), .val (.int (own_fits a0_ b0_))] [(.int (1 : Int32))])
            refine own_st (fun t_ k_ => XS.goto X26.here hx rfl (pc0 := 81) (pc' := 85) rfl (hb hby d9_81) (by decide) (by decide) k_) ?_
            show own_Go p e below _ T26 (mkF m 85 #[.val (.ref a), .val (.ref sB), .val (.int (1 : Int32)), .val (.int a1_), .val (.int b1_), .val (.int (own_fits a0_ b0_))] [(.int (1 : Int32))])
            exact J_f1_ (1 : Int32) (by rw [hf_, if_pos hl27])
          · refine own_st (fun t_ k_ => XS.icmpYes X26.here hx rfl (pc0 := 77) (pc' := 84) rfl (hb hby d9_77) rfl (feq hl27).2 (by decide) (by decide) k_) ?_
            show own_Go p e below _ T26 (mkF m 84 #[.val (.ref a), .val (.ref sB), .val (.int (1 : Int32)), .val (.int a1_), .val (.int b1_), .val (.int (own_fits a0_ b0_))] [])
            refine own_st (fun t_ k_ => XS.iconst X26.here hx rfl (hb hby d9_84) k_) ?_
            show own_Go p e below _ T26 (mkF m 85 #[.val (.ref a), .val (.ref sB), .val (.int (1 : Int32)), .val (.int a1_), .val (.int b1_), .val (.int (own_fits a0_ b0_))] [(.int (0 : Int32))])
            exact J_f1_ (0 : Int32) (by rw [hf_, if_neg hl27])
        · refine own_st (fun t_ k_ => XS.ifNo X26.here hx rfl (hb hby d9_49) rfl ((if0 _ _).trans (feq hcap).1) k_) ?_
          show own_Go p e below _ T26 (mkF m 52 #[.val (.ref a), .val (.ref sB), .val (.int (1 : Int32)), .val (.int a1_), .val (.int b1_), .val (.int (own_fits a0_ b0_))] [])
          have hf_ := own_fn (b := b1_) hcap
          refine own_st (fun t_ k_ => XS.iload X26.here hx rfl (hb hby d9_52) rfl k_) ?_
          show own_Go p e below _ T26 (mkF m 54 #[.val (.ref a), .val (.ref sB), .val (.int (1 : Int32)), .val (.int a1_), .val (.int b1_), .val (.int (own_fits a0_ b0_))] [(.int b1_)])
          refine own_st (fun t_ k_ => XS.bipush X26.here hx rfl (hb hby d9_54) k_) ?_
          show own_Go p e below _ T26 (mkF m 56 #[.val (.ref a), .val (.ref sB), .val (.int (1 : Int32)), .val (.int a1_), .val (.int b1_), .val (.int (own_fits a0_ b0_))] [(.int (48 : Int32)), (.int b1_)])
          by_cases hl28 : b1_ < (48 : Int32)
          · refine own_st (fun t_ k_ => XS.icmpYes X26.here hx rfl (pc0 := 56) (pc' := 70) rfl (hb hby d9_56) rfl (tlt hl28).1 (by decide) (by decide) k_) ?_
            show own_Go p e below _ T26 (mkF m 70 #[.val (.ref a), .val (.ref sB), .val (.int (1 : Int32)), .val (.int a1_), .val (.int b1_), .val (.int (own_fits a0_ b0_))] [])
            refine own_st (fun t_ k_ => XS.iconst X26.here hx rfl (hb hby d9_70) k_) ?_
            show own_Go p e below _ T26 (mkF m 71 #[.val (.ref a), .val (.ref sB), .val (.int (1 : Int32)), .val (.int a1_), .val (.int b1_), .val (.int (own_fits a0_ b0_))] [(.int (0 : Int32))])
            refine own_st (fun t_ k_ => XS.goto X26.here hx rfl (pc0 := 71) (pc' := 85) rfl (hb hby d9_71) (by decide) (by decide) k_) ?_
            show own_Go p e below _ T26 (mkF m 85 #[.val (.ref a), .val (.ref sB), .val (.int (1 : Int32)), .val (.int a1_), .val (.int b1_), .val (.int (own_fits a0_ b0_))] [(.int (0 : Int32))])
            exact J_f1_ (0 : Int32) (by rw [hf_, if_pos hl28])
          · refine own_st (fun t_ k_ => XS.icmpNo X26.here hx rfl (hb hby d9_56) rfl (flt hl28).1 k_) ?_
            show own_Go p e below _ T26 (mkF m 59 #[.val (.ref a), .val (.ref sB), .val (.int (1 : Int32)), .val (.int a1_), .val (.int b1_), .val (.int (own_fits a0_ b0_))] [])
            refine own_st (fun t_ k_ => XS.iload X26.here hx rfl (hb hby d9_59) rfl k_) ?_
            show own_Go p e below _ T26 (mkF m 61 #[.val (.ref a), .val (.ref sB), .val (.int (1 : Int32)), .val (.int a1_), .val (.int b1_), .val (.int (own_fits a0_ b0_))] [(.int b1_)])
            refine own_st (fun t_ k_ => XS.bipush X26.here hx rfl (hb hby d9_61) k_) ?_
            show own_Go p e below _ T26 (mkF m 63 #[.val (.ref a), .val (.ref sB), .val (.int (1 : Int32)), .val (.int a1_), .val (.int b1_), .val (.int (own_fits a0_ b0_))] [(.int (57 : Int32)), (.int b1_)])
            by_cases hl29 : (57 : Int32) < b1_
            · refine own_st (fun t_ k_ => XS.icmpYes X26.here hx rfl (pc0 := 63) (pc' := 70) rfl (hb hby d9_63) rfl (tlt hl29).2.2.1 (by decide) (by decide) k_) ?_
              show own_Go p e below _ T26 (mkF m 70 #[.val (.ref a), .val (.ref sB), .val (.int (1 : Int32)), .val (.int a1_), .val (.int b1_), .val (.int (own_fits a0_ b0_))] [])
              refine own_st (fun t_ k_ => XS.iconst X26.here hx rfl (hb hby d9_70) k_) ?_
              show own_Go p e below _ T26 (mkF m 71 #[.val (.ref a), .val (.ref sB), .val (.int (1 : Int32)), .val (.int a1_), .val (.int b1_), .val (.int (own_fits a0_ b0_))] [(.int (0 : Int32))])
              refine own_st (fun t_ k_ => XS.goto X26.here hx rfl (pc0 := 71) (pc' := 85) rfl (hb hby d9_71) (by decide) (by decide) k_) ?_
              show own_Go p e below _ T26 (mkF m 85 #[.val (.ref a), .val (.ref sB), .val (.int (1 : Int32)), .val (.int a1_), .val (.int b1_), .val (.int (own_fits a0_ b0_))] [(.int (0 : Int32))])
              exact J_f1_ (0 : Int32) (by rw [hf_, if_neg hl28, if_pos hl29])
            · refine own_st (fun t_ k_ => XS.icmpNo X26.here hx rfl (hb hby d9_63) rfl (flt hl29).2.2.1 k_) ?_
              show own_Go p e below _ T26 (mkF m 66 #[.val (.ref a), .val (.ref sB), .val (.int (1 : Int32)), .val (.int a1_), .val (.int b1_), .val (.int (own_fits a0_ b0_))] [])
              refine own_st (fun t_ k_ => XS.iconst X26.here hx rfl (hb hby d9_66) k_) ?_
              show own_Go p e below _ T26 (mkF m 67 #[.val (.ref a), .val (.ref sB), .val (.int (1 : Int32)), .val (.int a1_), .val (.int b1_), .val (.int (own_fits a0_ b0_))] [(.int (1 : Int32))])
              refine own_st (fun t_ k_ => XS.goto X26.here hx rfl (pc0 := 67) (pc' := 85) rfl (hb hby d9_67) (by decide) (by decide) k_) ?_
              show own_Go p e below _ T26 (mkF m 85 #[.val (.ref a), .val (.ref sB), .val (.int (1 : Int32)), .val (.int a1_), .val (.int b1_), .val (.int (own_fits a0_ b0_))] [(.int (1 : Int32))])
              exact J_f1_ (1 : Int32) (by rw [hf_, if_neg hl28, if_neg hl29])
  · show own_Go p e below _ T14 (mkF m 49 #[.val (.ref a), .val (.ref sB), .val (.int (0 : Int32)), .val (.int a0_), .val (.int b0_), .unset] [(.int (own_cap a0_))])
    by_cases hcap : (own_cap a0_) = (0 : Int32)
    · refine own_st (fun t_ k_ => XS.ifYes X14.here hx rfl (pc0 := 49) (pc' := 74) rfl (hb hby d9_49) rfl ((if0 _ _).trans (teq hcap).1) (by decide) (by decide) k_) ?_
      show own_Go p e below _ T14 (mkF m 74 #[.val (.ref a), .val (.ref sB), .val (.int (0 : Int32)), .val (.int a0_), .val (.int b0_), .unset] [])
      have hf_ := own_fc (b := b0_) hcap
      refine own_st (fun t_ k_ => XS.iload X14.here hx rfl (hb hby d9_74) rfl k_) ?_
      show own_Go p e below _ T14 (mkF m 76 #[.val (.ref a), .val (.ref sB), .val (.int (0 : Int32)), .val (.int a0_), .val (.int b0_), .unset] [(.int b0_)])
      refine own_st (fun t_ k_ => XS.iloadN X14.here hx rfl (hb hby d9_76) rfl k_) ?_
      show own_Go p e below _ T14 (mkF m 77 #[.val (.ref a), .val (.ref sB), .val (.int (0 : Int32)), .val (.int a0_), .val (.int b0_), .unset] [(.int a0_), (.int b0_)])
      by_cases hl15 : b0_ = a0_
      · refine own_st (fun t_ k_ => XS.icmpNo X14.here hx rfl (hb hby d9_77) rfl (teq hl15).2 k_) ?_
        show own_Go p e below _ T14 (mkF m 80 #[.val (.ref a), .val (.ref sB), .val (.int (0 : Int32)), .val (.int a0_), .val (.int b0_), .unset] [])
        refine own_st (fun t_ k_ => XS.iconst X14.here hx rfl (hb hby d9_80) k_) ?_
        show own_Go p e below _ T14 (mkF m 81 #[.val (.ref a), .val (.ref sB), .val (.int (0 : Int32)), .val (.int a0_), .val (.int b0_), .unset] [(.int (1 : Int32))])
        refine own_st (fun t_ k_ => XS.goto X14.here hx rfl (pc0 := 81) (pc' := 85) rfl (hb hby d9_81) (by decide) (by decide) k_) ?_
        show own_Go p e below _ T14 (mkF m 85 #[.val (.ref a), .val (.ref sB), .val (.int (0 : Int32)), .val (.int a0_), .val (.int b0_), .unset] [(.int (1 : Int32))])
        exact J_f0_ (1 : Int32) (by rw [hf_, if_pos hl15])
      · refine own_st (fun t_ k_ => XS.icmpYes X14.here hx rfl (pc0 := 77) (pc' := 84) rfl (hb hby d9_77) rfl (feq hl15).2 (by decide) (by decide) k_) ?_
        show own_Go p e below _ T14 (mkF m 84 #[.val (.ref a), .val (.ref sB), .val (.int (0 : Int32)), .val (.int a0_), .val (.int b0_), .unset] [])
        refine own_st (fun t_ k_ => XS.iconst X14.here hx rfl (hb hby d9_84) k_) ?_
        show own_Go p e below _ T14 (mkF m 85 #[.val (.ref a), .val (.ref sB), .val (.int (0 : Int32)), .val (.int a0_), .val (.int b0_), .unset] [(.int (0 : Int32))])
        exact J_f0_ (0 : Int32) (by rw [hf_, if_neg hl15])
    · refine own_st (fun t_ k_ => XS.ifNo X14.here hx rfl (hb hby d9_49) rfl ((if0 _ _).trans (feq hcap).1) k_) ?_
      show own_Go p e below _ T14 (mkF m 52 #[.val (.ref a), .val (.ref sB), .val (.int (0 : Int32)), .val (.int a0_), .val (.int b0_), .unset] [])
      have hf_ := own_fn (b := b0_) hcap
      refine own_st (fun t_ k_ => XS.iload X14.here hx rfl (hb hby d9_52) rfl k_) ?_
      show own_Go p e below _ T14 (mkF m 54 #[.val (.ref a), .val (.ref sB), .val (.int (0 : Int32)), .val (.int a0_), .val (.int b0_), .unset] [(.int b0_)])
      refine own_st (fun t_ k_ => XS.bipush X14.here hx rfl (hb hby d9_54) k_) ?_
      show own_Go p e below _ T14 (mkF m 56 #[.val (.ref a), .val (.ref sB), .val (.int (0 : Int32)), .val (.int a0_), .val (.int b0_), .unset] [(.int (48 : Int32)), (.int b0_)])
      by_cases hl16 : b0_ < (48 : Int32)
      · refine own_st (fun t_ k_ => XS.icmpYes X14.here hx rfl (pc0 := 56) (pc' := 70) rfl (hb hby d9_56) rfl (tlt hl16).1 (by decide) (by decide) k_) ?_
        show own_Go p e below _ T14 (mkF m 70 #[.val (.ref a), .val (.ref sB), .val (.int (0 : Int32)), .val (.int a0_), .val (.int b0_), .unset] [])
        refine own_st (fun t_ k_ => XS.iconst X14.here hx rfl (hb hby d9_70) k_) ?_
        show own_Go p e below _ T14 (mkF m 71 #[.val (.ref a), .val (.ref sB), .val (.int (0 : Int32)), .val (.int a0_), .val (.int b0_), .unset] [(.int (0 : Int32))])
        refine own_st (fun t_ k_ => XS.goto X14.here hx rfl (pc0 := 71) (pc' := 85) rfl (hb hby d9_71) (by decide) (by decide) k_) ?_
        show own_Go p e below _ T14 (mkF m 85 #[.val (.ref a), .val (.ref sB), .val (.int (0 : Int32)), .val (.int a0_), .val (.int b0_), .unset] [(.int (0 : Int32))])
        exact J_f0_ (0 : Int32) (by rw [hf_, if_pos hl16])
      · refine own_st (fun t_ k_ => XS.icmpNo X14.here hx rfl (hb hby d9_56) rfl (flt hl16).1 k_) ?_
        show own_Go p e below _ T14 (mkF m 59 #[.val (.ref a), .val (.ref sB), .val (.int (0 : Int32)), .val (.int a0_), .val (.int b0_), .unset] [])
        refine own_st (fun t_ k_ => XS.iload X14.here hx rfl (hb hby d9_59) rfl k_) ?_
        show own_Go p e below _ T14 (mkF m 61 #[.val (.ref a), .val (.ref sB), .val (.int (0 : Int32)), .val (.int a0_), .val (.int b0_), .unset] [(.int b0_)])
        refine own_st (fun t_ k_ => XS.bipush X14.here hx rfl (hb hby d9_61) k_) ?_
        show own_Go p e below _ T14 (mkF m 63 #[.val (.ref a), .val (.ref sB), .val (.int (0 : Int32)), .val (.int a0_), .val (.int b0_), .unset] [(.int (57 : Int32)), (.int b0_)])
        by_cases hl17 : (57 : Int32) < b0_
        · refine own_st (fun t_ k_ => XS.icmpYes X14.here hx rfl (pc0 := 63) (pc' := 70) rfl (hb hby d9_63) rfl (tlt hl17).2.2.1 (by decide) (by decide) k_) ?_
          show own_Go p e below _ T14 (mkF m 70 #[.val (.ref a), .val (.ref sB), .val (.int (0 : Int32)), .val (.int a0_), .val (.int b0_), .unset] [])
          refine own_st (fun t_ k_ => XS.iconst X14.here hx rfl (hb hby d9_70) k_) ?_
          show own_Go p e below _ T14 (mkF m 71 #[.val (.ref a), .val (.ref sB), .val (.int (0 : Int32)), .val (.int a0_), .val (.int b0_), .unset] [(.int (0 : Int32))])
          refine own_st (fun t_ k_ => XS.goto X14.here hx rfl (pc0 := 71) (pc' := 85) rfl (hb hby d9_71) (by decide) (by decide) k_) ?_
          show own_Go p e below _ T14 (mkF m 85 #[.val (.ref a), .val (.ref sB), .val (.int (0 : Int32)), .val (.int a0_), .val (.int b0_), .unset] [(.int (0 : Int32))])
          exact J_f0_ (0 : Int32) (by rw [hf_, if_neg hl16, if_pos hl17])
        · refine own_st (fun t_ k_ => XS.icmpNo X14.here hx rfl (hb hby d9_63) rfl (flt hl17).2.2.1 k_) ?_
          show own_Go p e below _ T14 (mkF m 66 #[.val (.ref a), .val (.ref sB), .val (.int (0 : Int32)), .val (.int a0_), .val (.int b0_), .unset] [])
          refine own_st (fun t_ k_ => XS.iconst X14.here hx rfl (hb hby d9_66) k_) ?_
          show own_Go p e below _ T14 (mkF m 67 #[.val (.ref a), .val (.ref sB), .val (.int (0 : Int32)), .val (.int a0_), .val (.int b0_), .unset] [(.int (1 : Int32))])
          refine own_st (fun t_ k_ => XS.goto X14.here hx rfl (pc0 := 67) (pc' := 85) rfl (hb hby d9_67) (by decide) (by decide) k_) ?_
          show own_Go p e below _ T14 (mkF m 85 #[.val (.ref a), .val (.ref sB), .val (.int (0 : Int32)), .val (.int a0_), .val (.int b0_), .unset] [(.int (1 : Int32))])
          exact J_f0_ (1 : Int32) (by rw [hf_, if_neg hl16, if_neg hl17])
theorem ef_rmM3 (m : MethodId) (x0 : Addr) (x1 : Addr) : entryFrame m #[(.ref x0), (.ref x1)] 6 = mkF m 0 #[.val (.ref x0), .val (.ref x1), .unset, .unset, .unset, .unset] [] := by first | (simp [entryFrame, mkF, argsToLocals, Value.category]; done) | rfl
set_option maxRecDepth 65536 in
set_option maxHeartbeats 40000000 in
theorem rmM3 (l : Launch) (Z : State) (a0 : Array Value) (hw : ∀ d ∈ tables_1, d.before a0 Z = true) (ws : List Jvm.Cond) (a sA tA sB tB : Addr) (kbA kbB : ClassId) (cs ds : List Int32) (G : Int32) (fm : Value) (a0_ a1_ a2_ b0_ b1_ b2_ r : Int32) (h0 : Heap) (n0 : Nat) (Z0 : n0 ≤ h0.size) (SC : Sta Z Z.heap "java/lang/String" "COMPACT_STRINGS" "Z" (.int G)) (hCS : ¬ G = 0) (O0 : Old Z n0 h0) (SF : Sta Z Z.heap "jdk/internal/util/Preconditions" "SIOOBE_FORMATTER" "Ljava/util/function/BiFunction;" fm) (rG : fm.isRef = true) (Ea : Exa Z h0 a "com/example/hebelwerk/hebelwerk/io/FixedForm") (Fa : Fld Z h0 a "com/example/hebelwerk/hebelwerk/io/FixedForm" "form" "Ljava/lang/String;" (.ref sA)) (EpA : Exa Z h0 sA "java/lang/String") (CpA : Fld Z h0 sA "java/lang/String" "coder" "B" (.int 0)) (VpA : Fld Z h0 sA "java/lang/String" "value" "[B" (.ref tA)) (ApA : Arv Z h0 tA kbA .byte (Int32.ofNat (cs).length) (((cs).map (fun c => c.toInt8.toInt32)).map Value.int) (.int 0)) (hppA : ∀ c ∈ cs, ¬ c < 0 ∧ ¬ (255 : Int32) < c) (l2pA : (cs).length ≤ 4000) (EpB : Exa Z h0 sB "java/lang/String") (CpB : Fld Z h0 sB "java/lang/String" "coder" "B" (.int 0)) (VpB : Fld Z h0 sB "java/lang/String" "value" "[B" (.ref tB)) (ApB : Arv Z h0 tB kbB .byte (Int32.ofNat (ds).length) (((ds).map (fun c => c.toInt8.toInt32)).map Value.int) (.int 0)) (hppB : ∀ c ∈ ds, ¬ c < 0 ∧ ¬ (255 : Int32) < c) (l2pB : (ds).length ≤ 4000) (ecs : cs = ([a0_, a1_, a2_] : List Int32)) (eds : ds = ([b0_, b1_, b2_] : List Int32)) (hr : r = if own_fits a0_ b0_ = 0 then (0 : Int32) else if own_fits a1_ b1_ = 0 then (0 : Int32) else if own_fits a2_ b2_ = 0 then (0 : Int32) else (1 : Int32)) :
    MetFree l (⟨"com/example/hebelwerk/hebelwerk/io/FixedForm", "matches", "(Ljava/lang/String;)Z"⟩ : MethodName) (head1 (Jvm.Cond.code (⟨"com/example/hebelwerk/hebelwerk/io/FixedForm", "matches", "(Ljava/lang/String;)Z"⟩ : MethodName) prog_68_method_2_code 6 (some .boolean) :: ws) ({ frames := 4, cells := 0, slots := 0, locals := 53 } : Room)) (fun a_ U_ => a_ = #[(.ref a), (.ref sB)] ∧ Z.Warmed39 U_.vm ∧ U_.heap = h0) (fun _ _ _ _ _ => True) (fun _ U_ o_ U'_ => ∃ v_ L_, o_ = .returned v_ ∧ QR (.int r) h0 n0 v_ U'_.heap L_ ∧ FrameEnd U_ o_ U'_ L_ ({ frames := 4, cells := 0, slots := 0, locals := 53 } : Room).cells ({ frames := 4, cells := 0, slots := 0, locals := 53 } : Room).slots) := by
  refine MetFree.of_bodySF (plainFor_of_name pn_2) hisR ?_
  intro p e s m args below meth c s₁ Bd hml0 hP hK
  obtain ⟨rfl, hZ, hh⟩ := hP
  have hx := Bd.exec
  have hby := Bd.bytes
  have hml : c.maxLocals = 6 := hml0
  have hown : s.vm.findClass "com/example/hebelwerk/hebelwerk/io/FixedForm" = some m.cls := findClass_of_methodNamed Bd.named
  have hnm := (name_of_methodNamed Bd.named Bd.method).1
  have hlk := BodyLoose.notSynchronized Bd
  have X0 : Stand p l e ({ frames := 4, cells := 0, slots := 0, locals := 53 } : Room) s m #[(.ref a), (.ref sB)] below meth c s₁ [] 0 0 := Stand.of_body Bd
  have e0 : s₁.heap = h0 := by rw [← hh, Bd.state]; rfl
  have N0 := Fr.nil n0
  refine own_entry (P := own_End s (QR (.int r) h0 n0) ({ frames := 4, cells := 0, slots := 0, locals := 53 } : Room).cells ({ frames := 4, cells := 0, slots := 0, locals := 53 } : Room).slots) (ef_rmM3 m a sB) ?_
  show own_Go p e below _ s₁ (mkF m 0 #[.val (.ref a), .val (.ref sB), .unset, .unset, .unset, .unset] [])
  subst ecs
  subst eds
  refine own_st (fun t_ k_ => XS.aloadN X0.here hx rfl (hb hby d9_0) rfl rfl k_) ?_
  show own_Go p e below _ s₁ (mkF m 1 #[.val (.ref a), .val (.ref sB), .unset, .unset, .unset, .unset] [(.ref sB)])
  obtain ⟨cq2, kq2, q2a, q2b, q2c⟩ := isOf hZ e0 EpB
  refine own_callV X0 hx (y := (⟨"java/lang/String", "length", "()I"⟩ : MethodName)) (z := (⟨"java/lang/String", "length", "()I"⟩ : MethodName)) hown (mvT hZ (hw _ (List.mem_of_getElem? (i := 46) rfl))) (mvT hZ (hw _ (List.mem_of_getElem? (i := 47) rfl))) (notFace_of_selects (args := #[]) (mvT hZ (hw _ (List.mem_of_getElem? (i := 49) rfl)))) (mvT hZ (hw _ (List.mem_of_getElem? (i := 49) rfl))) (mvT hZ (hw _ (List.mem_of_getElem? (i := 48) rfl))) (by decide) (own_intB rfl (StrChars.Road.lenW (W := 0) hZ (own_wLen hw) (kI := 4) (hw _ (List.mem_of_getElem? (i := 11) rfl)) (cs := ([b0_, b1_, b2_] : List Int32)) EpB VpB CpB ApB (StrChars.Road.codOf rfl (fun c hc => (hppB c hc).2)) (own_up hppB) (Sta.ext O0.2 SC) hCS l2pB (by decide) (by decide))) q2a q2c (g := (mkF m 1 #[.val (.ref a), .val (.ref sB), .unset, .unset, .unset, .unset] [(.ref sB)])) rfl (by rw [hml]; rfl) (argsL := []) (rest := []) (lenOf pd_2 rfl) rfl (by show 2 * 0 + _ ≤ _; exact Nat.le_of_eq rfl) (hb hby d9_1) rfl e0 (by decide) (by decide) ?_
  rintro v1 T1 L1 X1 ⟨rfl, rfl, hh1⟩
  have Nq1 := Fr.nil n0
  have N1 := Fr.app N0 Nq1
  show own_Go p e below _ T1 (mkF m 4 #[.val (.ref a), .val (.ref sB), .unset, .unset, .unset, .unset] [(.int (3 : Int32))])
  refine own_st (fun t_ k_ => XS.aloadN X1.here hx rfl (hb hby d9_4) rfl rfl k_) ?_
  show own_Go p e below _ T1 (mkF m 5 #[.val (.ref a), .val (.ref sB), .unset, .unset, .unset, .unset] [(.ref a), (.int (3 : Int32))])
  obtain ⟨T3, X3, e3, st3⟩ := getF X1 hx hZ hown (host := "") (Or.inl (hw _ (List.mem_of_getElem? (i := 39) rfl))) Via.refl hh1 Fa (g := (mkF m 5 #[.val (.ref a), .val (.ref sB), .unset, .unset, .unset, .unset] [(.ref a), (.int (3 : Int32))])) rfl rfl (hb hby d9_5)
  refine own_st st3 ?_
  show own_Go p e below _ T3 (mkF m 8 #[.val (.ref a), .val (.ref sB), .unset, .unset, .unset, .unset] [(.ref sA), (.int (3 : Int32))])
  obtain ⟨cq5, kq5, q5a, q5b, q5c⟩ := isOf hZ e3 EpA
  refine own_callV X3 hx (y := (⟨"java/lang/String", "length", "()I"⟩ : MethodName)) (z := (⟨"java/lang/String", "length", "()I"⟩ : MethodName)) hown (mvT hZ (hw _ (List.mem_of_getElem? (i := 46) rfl))) (mvT hZ (hw _ (List.mem_of_getElem? (i := 47) rfl))) (notFace_of_selects (args := #[]) (mvT hZ (hw _ (List.mem_of_getElem? (i := 49) rfl)))) (mvT hZ (hw _ (List.mem_of_getElem? (i := 49) rfl))) (mvT hZ (hw _ (List.mem_of_getElem? (i := 48) rfl))) (by decide) (own_intB rfl (StrChars.Road.lenW (W := 1) hZ (own_wLen hw) (kI := 4) (hw _ (List.mem_of_getElem? (i := 11) rfl)) (cs := ([a0_, a1_, a2_] : List Int32)) EpA VpA CpA ApA (StrChars.Road.codOf rfl (fun c hc => (hppA c hc).2)) (own_up hppA) (Sta.ext O0.2 SC) hCS l2pA (by decide) (by decide))) q5a q5c (g := (mkF m 8 #[.val (.ref a), .val (.ref sB), .unset, .unset, .unset, .unset] [(.ref sA), (.int (3 : Int32))])) rfl (by rw [hml]; rfl) (argsL := []) (rest := [(.int (3 : Int32))]) (lenOf pd_2 rfl) rfl (by show 2 * 0 + _ ≤ _; exact Nat.le_of_eq rfl) (hb hby d9_8) rfl e3 (by decide) (by decide) ?_
  rintro v4 T4 L4 X4 ⟨rfl, rfl, hh4⟩
  have Nq4 := Fr.nil n0
  have N4 := Fr.app N1 Nq4
  show own_Go p e below _ T4 (mkF m 11 #[.val (.ref a), .val (.ref sB), .unset, .unset, .unset, .unset] [(.int (3 : Int32)), (.int (3 : Int32))])
  refine own_st (fun t_ k_ => XS.icmpYes X4.here hx rfl (pc0 := 11) (pc' := 16) rfl (hb hby d9_11) rfl (by decide) (by decide) (by decide) k_) ?_
  show own_Go p e below _ T4 (mkF m 16 #[.val (.ref a), .val (.ref sB), .unset, .unset, .unset, .unset] [])
  refine own_st (fun t_ k_ => XS.iconst X4.here hx rfl (hb hby d9_16) k_) ?_
  show own_Go p e below _ T4 (mkF m 17 #[.val (.ref a), .val (.ref sB), .unset, .unset, .unset, .unset] [(.int (0 : Int32))])
  refine own_st (fun t_ k_ => XS.istoreN X4.here hx rfl (hb hby d9_17) rfl (l' := #[.val (.ref a), .val (.ref sB), .val (.int (0 : Int32)), .unset, .unset, .unset]) rfl k_) ?_
  show own_Go p e below _ T4 (mkF m 18 #[.val (.ref a), .val (.ref sB), .val (.int (0 : Int32)), .unset, .unset, .unset] [])
  refine own_st (fun t_ k_ => XS.iloadN X4.here hx rfl (hb hby d9_18) rfl k_) ?_
  show own_Go p e below _ T4 (mkF m 19 #[.val (.ref a), .val (.ref sB), .val (.int (0 : Int32)), .unset, .unset, .unset] [(.int (0 : Int32))])
  refine own_st (fun t_ k_ => XS.aloadN X4.here hx rfl (hb hby d9_19) rfl rfl k_) ?_
  show own_Go p e below _ T4 (mkF m 20 #[.val (.ref a), .val (.ref sB), .val (.int (0 : Int32)), .unset, .unset, .unset] [(.ref a), (.int (0 : Int32))])
  obtain ⟨T6, X6, e6, st6⟩ := getF X4 hx hZ hown (host := "") (Or.inl (hw _ (List.mem_of_getElem? (i := 39) rfl))) Via.refl hh4 Fa (g := (mkF m 20 #[.val (.ref a), .val (.ref sB), .val (.int (0 : Int32)), .unset, .unset, .unset] [(.ref a), (.int (0 : Int32))])) rfl rfl (hb hby d9_20)
  refine own_st st6 ?_
  show own_Go p e below _ T6 (mkF m 23 #[.val (.ref a), .val (.ref sB), .val (.int (0 : Int32)), .unset, .unset, .unset] [(.ref sA), (.int (0 : Int32))])
  obtain ⟨cq8, kq8, q8a, q8b, q8c⟩ := isOf hZ e6 EpA
  refine own_callV X6 hx (y := (⟨"java/lang/String", "length", "()I"⟩ : MethodName)) (z := (⟨"java/lang/String", "length", "()I"⟩ : MethodName)) hown (mvT hZ (hw _ (List.mem_of_getElem? (i := 46) rfl))) (mvT hZ (hw _ (List.mem_of_getElem? (i := 47) rfl))) (notFace_of_selects (args := #[]) (mvT hZ (hw _ (List.mem_of_getElem? (i := 49) rfl)))) (mvT hZ (hw _ (List.mem_of_getElem? (i := 49) rfl))) (mvT hZ (hw _ (List.mem_of_getElem? (i := 48) rfl))) (by decide) (own_intB rfl (StrChars.Road.lenW (W := 1) hZ (own_wLen hw) (kI := 4) (hw _ (List.mem_of_getElem? (i := 11) rfl)) (cs := ([a0_, a1_, a2_] : List Int32)) EpA VpA CpA ApA (StrChars.Road.codOf rfl (fun c hc => (hppA c hc).2)) (own_up hppA) (Sta.ext O0.2 SC) hCS l2pA (by decide) (by decide))) q8a q8c (g := (mkF m 23 #[.val (.ref a), .val (.ref sB), .val (.int (0 : Int32)), .unset, .unset, .unset] [(.ref sA), (.int (0 : Int32))])) rfl (by rw [hml]; rfl) (argsL := []) (rest := [(.int (0 : Int32))]) (lenOf pd_2 rfl) rfl (by show 2 * 0 + _ ≤ _; exact Nat.le_of_eq rfl) (hb hby d9_23) rfl e6 (by decide) (by decide) ?_
  rintro v7 T7 L7 X7 ⟨rfl, rfl, hh7⟩
  have Nq7 := Fr.nil n0
  have N7 := Fr.app N4 Nq7
  show own_Go p e below _ T7 (mkF m 26 #[.val (.ref a), .val (.ref sB), .val (.int (0 : Int32)), .unset, .unset, .unset] [(.int (3 : Int32)), (.int (0 : Int32))])
  refine own_st (fun t_ k_ => XS.icmpNo X7.here hx rfl (hb hby d9_26) rfl (by decide) k_) ?_
  show own_Go p e below _ T7 (mkF m 29 #[.val (.ref a), .val (.ref sB), .val (.int (0 : Int32)), .unset, .unset, .unset] [])
  refine own_st (fun t_ k_ => XS.aloadN X7.here hx rfl (hb hby d9_29) rfl rfl k_) ?_
  show own_Go p e below _ T7 (mkF m 30 #[.val (.ref a), .val (.ref sB), .val (.int (0 : Int32)), .unset, .unset, .unset] [(.ref a)])
  obtain ⟨T9, X9, e9, st9⟩ := getF X7 hx hZ hown (host := "") (Or.inl (hw _ (List.mem_of_getElem? (i := 39) rfl))) Via.refl hh7 Fa (g := (mkF m 30 #[.val (.ref a), .val (.ref sB), .val (.int (0 : Int32)), .unset, .unset, .unset] [(.ref a)])) rfl rfl (hb hby d9_30)
  refine own_st st9 ?_
  show own_Go p e below _ T9 (mkF m 33 #[.val (.ref a), .val (.ref sB), .val (.int (0 : Int32)), .unset, .unset, .unset] [(.ref sA)])
  refine own_st (fun t_ k_ => XS.iloadN X9.here hx rfl (hb hby d9_33) rfl k_) ?_
  show own_Go p e below _ T9 (mkF m 34 #[.val (.ref a), .val (.ref sB), .val (.int (0 : Int32)), .unset, .unset, .unset] [(.int (0 : Int32)), (.ref sA)])
  obtain ⟨cq11, kq11, q11a, q11b, q11c⟩ := isOf hZ e9 EpA
  refine own_callV X9 hx (y := (⟨"java/lang/String", "charAt", "(I)C"⟩ : MethodName)) (z := (⟨"java/lang/String", "charAt", "(I)C"⟩ : MethodName)) hown (mvT hZ (hw _ (List.mem_of_getElem? (i := 70) rfl))) (mvT hZ (hw _ (List.mem_of_getElem? (i := 71) rfl))) (notFace_of_selects (args := #[]) (mvT hZ (hw _ (List.mem_of_getElem? (i := 73) rfl)))) (mvT hZ (hw _ (List.mem_of_getElem? (i := 73) rfl))) (mvT hZ (hw _ (List.mem_of_getElem? (i := 72) rfl))) (by decide) (own_intB rfl (StrChars.Road.chN (W := 0) hZ (own_wChN hw) (kI := 4) (hw _ (List.mem_of_getElem? (i := 11) rfl)) (cs := ([a0_, a1_, a2_] : List Int32)) EpA VpA CpA ApA (StrChars.Road.codOf rfl (fun c hc => (hppA c hc).2)) (own_up hppA) (Sta.ext O0.2 SC) hCS (Sta.ext O0.2 SF) rG l2pA (i := 0) (Nat.le_of_ble_eq_true rfl) (j := (0 : Int32)) rfl (by decide) (by decide))) q11a q11c (g := (mkF m 34 #[.val (.ref a), .val (.ref sB), .val (.int (0 : Int32)), .unset, .unset, .unset] [(.int (0 : Int32)), (.ref sA)])) rfl (by rw [hml]; rfl) (argsL := [(.int (0 : Int32))]) (rest := []) (lenOf pd_3 rfl) rfl (by show 2 * 0 + _ ≤ _; exact Nat.le_of_eq rfl) (hb hby d9_34) rfl e9 (by decide) (by decide) ?_
  rintro v10 T10 L10 X10 ⟨rfl, rfl, hh10⟩
  have Nq10 := Fr.nil n0
  have N10 := Fr.app N7 Nq10
  show own_Go p e below _ T10 (mkF m 37 #[.val (.ref a), .val (.ref sB), .val (.int (0 : Int32)), .unset, .unset, .unset] [(.int a0_)])
  refine own_st (fun t_ k_ => XS.istoreN X10.here hx rfl (hb hby d9_37) rfl (l' := #[.val (.ref a), .val (.ref sB), .val (.int (0 : Int32)), .val (.int a0_), .unset, .unset]) rfl k_) ?_
  show own_Go p e below _ T10 (mkF m 38 #[.val (.ref a), .val (.ref sB), .val (.int (0 : Int32)), .val (.int a0_), .unset, .unset] [])
  refine own_st (fun t_ k_ => XS.aloadN X10.here hx rfl (hb hby d9_38) rfl rfl k_) ?_
  show own_Go p e below _ T10 (mkF m 39 #[.val (.ref a), .val (.ref sB), .val (.int (0 : Int32)), .val (.int a0_), .unset, .unset] [(.ref sB)])
  refine own_st (fun t_ k_ => XS.iloadN X10.here hx rfl (hb hby d9_39) rfl k_) ?_
  show own_Go p e below _ T10 (mkF m 40 #[.val (.ref a), .val (.ref sB), .val (.int (0 : Int32)), .val (.int a0_), .unset, .unset] [(.int (0 : Int32)), (.ref sB)])
  obtain ⟨cq13, kq13, q13a, q13b, q13c⟩ := isOf hZ hh10 EpB
  refine own_callV X10 hx (y := (⟨"java/lang/String", "charAt", "(I)C"⟩ : MethodName)) (z := (⟨"java/lang/String", "charAt", "(I)C"⟩ : MethodName)) hown (mvT hZ (hw _ (List.mem_of_getElem? (i := 70) rfl))) (mvT hZ (hw _ (List.mem_of_getElem? (i := 71) rfl))) (notFace_of_selects (args := #[]) (mvT hZ (hw _ (List.mem_of_getElem? (i := 73) rfl)))) (mvT hZ (hw _ (List.mem_of_getElem? (i := 73) rfl))) (mvT hZ (hw _ (List.mem_of_getElem? (i := 72) rfl))) (by decide) (own_intB rfl (StrChars.Road.chN (W := 0) hZ (own_wChN hw) (kI := 4) (hw _ (List.mem_of_getElem? (i := 11) rfl)) (cs := ([b0_, b1_, b2_] : List Int32)) EpB VpB CpB ApB (StrChars.Road.codOf rfl (fun c hc => (hppB c hc).2)) (own_up hppB) (Sta.ext O0.2 SC) hCS (Sta.ext O0.2 SF) rG l2pB (i := 0) (Nat.le_of_ble_eq_true rfl) (j := (0 : Int32)) rfl (by decide) (by decide))) q13a q13c (g := (mkF m 40 #[.val (.ref a), .val (.ref sB), .val (.int (0 : Int32)), .val (.int a0_), .unset, .unset] [(.int (0 : Int32)), (.ref sB)])) rfl (by rw [hml]; rfl) (argsL := [(.int (0 : Int32))]) (rest := []) (lenOf pd_3 rfl) rfl (by show 2 * 0 + _ ≤ _; exact Nat.le_of_eq rfl) (hb hby d9_40) rfl hh10 (by decide) (by decide) ?_
  rintro v12 T12 L12 X12 ⟨rfl, rfl, hh12⟩
  have Nq12 := Fr.nil n0
  have N12 := Fr.app N10 Nq12
  show own_Go p e below _ T12 (mkF m 43 #[.val (.ref a), .val (.ref sB), .val (.int (0 : Int32)), .val (.int a0_), .unset, .unset] [(.int b0_)])
  refine own_st (fun t_ k_ => XS.istore X12.here hx rfl (hb hby d9_43) rfl (l' := #[.val (.ref a), .val (.ref sB), .val (.int (0 : Int32)), .val (.int a0_), .val (.int b0_), .unset]) rfl k_) ?_
  show own_Go p e below _ T12 (mkF m 45 #[.val (.ref a), .val (.ref sB), .val (.int (0 : Int32)), .val (.int a0_), .val (.int b0_), .unset] [])
  refine own_st (fun t_ k_ => XS.iloadN X12.here hx rfl (hb hby d9_45) rfl k_) ?_
  show own_Go p e below _ T12 (mkF m 46 #[.val (.ref a), .val (.ref sB), .val (.int (0 : Int32)), .val (.int a0_), .val (.int b0_), .unset] [(.int a0_)])
  refine own_callS X12 hx (y := (⟨"com/example/hebelwerk/hebelwerk/io/FixedForm", "isCapital", "(C)Z"⟩ : MethodName)) hown (mvT hZ (hw _ (List.mem_of_getElem? (i := 92) rfl))) (mvT hZ (hw _ (List.mem_of_getElem? (i := 93) rfl))) (mvT hZ (hw _ (List.mem_of_getElem? (i := 34) rfl))) (mvT hZ (hw _ (List.mem_of_getElem? (i := 94) rfl))) (by decide) (backOf (W := 0) (rmIC l Z a0 hw [] a0_ h0 n0 (Nat.le_trans Z0 (Keep.refl h0 []).1)) hZ (hw _ (List.mem_of_getElem? (i := 94) rfl)) (hw _ (List.mem_of_getElem? (i := 34) rfl)) (by decide) (by decide)) (g := (mkF m 46 #[.val (.ref a), .val (.ref sB), .val (.int (0 : Int32)), .val (.int a0_), .val (.int b0_), .unset] [(.int a0_)])) rfl (by rw [hml]; rfl) (argsL := [(.int a0_)]) (rest := []) (lenOf pd_4 rfl) rfl (by show 2 * 0 + _ ≤ _; exact Nat.le_of_eq rfl) (hb hby d9_46) rfl hh12 (by decide) (by decide) ?_
  rintro v14 T14 L14 X14 ⟨rfl, Nq14, hh14⟩
  have N14 := Fr.app N12 Nq14
  show own_Go p e below _ T14 (mkF m 49 #[.val (.ref a), .val (.ref sB), .val (.int (0 : Int32)), .val (.int a0_), .val (.int b0_), .unset] [(.int (own_cap a0_))])
  refine own_join (α := Int32) (F := fun f0_ => f0_ = own_fits a0_ b0_) (T' := T14) (g' := fun f0_ => (mkF m 85 #[.val (.ref a), .val (.ref sB), .val (.int (0 : Int32)), .val (.int a0_), .val (.int b0_), .unset] [(.int f0_)])) (fun f0_ h_f0_ => ?_) (fun J_f0_ => ?_)
  · show own_Go p e below _ T14 (mkF m 85 #[.val (.ref a), .val (.ref sB), .val (.int (0 : Int32)), .val (.int a0_), .val (.int b0_), .unset] [(.int f0_)])
    subst h_f0_
    show own_Go p e below _ T14 (mkF m 85 #[.val (.ref a), .val (.ref sB), .val (.int (0 : Int32)), .val (.int a0_), .val (.int b0_), .unset] [(.int (own_fits a0_ b0_))])
    refine own_st (fun t_ k_ => XS.istore X14.here hx rfl (hb hby d9_85) rfl (l' := #[.val (.ref a), .val (.ref sB), .val (.int (0 : Int32)), .val (.int a0_), .val (.int b0_), .val (.int (own_fits a0_ b0_))]) rfl k_) ?_
    show own_Go p e below _ T14 (mkF m 87 #[.val (.ref a), .val (.ref sB), .val (.int (0 : Int32)), .val (.int a0_), .val (.int b0_), .val (.int (own_fits a0_ b0_))] [])
    refine own_st (fun t_ k_ => XS.iload X14.here hx rfl (hb hby d9_87) rfl k_) ?_
    show own_Go p e below _ T14 (mkF m 89 #[.val (.ref a), .val (.ref sB), .val (.int (0 : Int32)), .val (.int a0_), .val (.int b0_), .val (.int (own_fits a0_ b0_))] [(.int (own_fits a0_ b0_))])
    by_cases hz0_ : (own_fits a0_ b0_) = (0 : Int32)
    · refine own_st (fun t_ k_ => XS.ifNo X14.here hx rfl (hb hby d9_89) rfl ((if0 _ _).trans (teq hz0_).2) k_) ?_
      show own_Go p e below _ T14 (mkF m 92 #[.val (.ref a), .val (.ref sB), .val (.int (0 : Int32)), .val (.int a0_), .val (.int b0_), .val (.int (own_fits a0_ b0_))] [])
      refine own_st (fun t_ k_ => XS.iconst X14.here hx rfl (hb hby d9_92) k_) ?_
      show own_Go p e below _ T14 (mkF m 93 #[.val (.ref a), .val (.ref sB), .val (.int (0 : Int32)), .val (.int a0_), .val (.int b0_), .val (.int (own_fits a0_ b0_))] [(.int (0 : Int32))])
      refine own_retN X14 hx hlk (t := .boolean) Bd.returns (by simp) (hb hby d9_93) ?_ (by decide) (by decide)
      show QR (.int r) h0 n0 _ T14.heap _
      rw [hh14]
      exact ⟨by rw [hr, if_pos hz0_]; rfl, N14, rfl⟩
    · refine own_st (fun t_ k_ => XS.ifYes X14.here hx rfl (pc0 := 89) (pc' := 94) rfl (hb hby d9_89) rfl ((if0 _ _).trans (feq hz0_).2) (by decide) (by decide) k_) ?_
      show own_Go p e below _ T14 (mkF m 94 #[.val (.ref a), .val (.ref sB), .val (.int (0 : Int32)), .val (.int a0_), .val (.int b0_), .val (.int (own_fits a0_ b0_))] [])
      refine own_st (fun t_ k_ => XS.iinc X14.here hx rfl (hb hby d9_94) rfl (l' := #[.val (.ref a), .val (.ref sB), .val (.int (1 : Int32)), .val (.int a0_), .val (.int b0_), .val (.int (own_fits a0_ b0_))]) rfl k_) ?_
      show own_Go p e below _ T14 (mkF m 97 #[.val (.ref a), .val (.ref sB), .val (.int (1 : Int32)), .val (.int a0_), .val (.int b0_), .val (.int (own_fits a0_ b0_))] [])
      refine own_st (fun t_ k_ => XS.goto X14.here hx rfl (pc0 := 97) (pc' := 18) rfl (hb hby d9_97) (by decide) (by decide) k_) ?_
      show own_Go p e below _ T14 (mkF m 18 #[.val (.ref a), .val (.ref sB), .val (.int (1 : Int32)), .val (.int a0_), .val (.int b0_), .val (.int (own_fits a0_ b0_))] [])
      refine own_st (fun t_ k_ => XS.iloadN X14.here hx rfl (hb hby d9_18) rfl k_) ?_
      show own_Go p e below _ T14 (mkF m 19 #[.val (.ref a), .val (.ref sB), .val (.int (1 : Int32)), .val (.int a0_), .val (.int b0_), .val (.int (own_fits a0_ b0_))] [(.int (1 : Int32))])
      refine own_st (fun t_ k_ => XS.aloadN X14.here hx rfl (hb hby d9_19) rfl rfl k_) ?_
      show own_Go p e below _ T14 (mkF m 20 #[.val (.ref a), .val (.ref sB), .val (.int (1 : Int32)), .val (.int a0_), .val (.int b0_), .val (.int (own_fits a0_ b0_))] [(.ref a), (.int (1 : Int32))])
      obtain ⟨T18, X18, e18, st18⟩ := getF X14 hx hZ hown (host := "") (Or.inl (hw _ (List.mem_of_getElem? (i := 39) rfl))) Via.refl hh14 Fa (g := (mkF m 20 #[.val (.ref a), .val (.ref sB), .val (.int (1 : Int32)), .val (.int a0_), .val (.int b0_), .val (.int (own_fits a0_ b0_))] [(.ref a), (.int (1 : Int32))])) rfl rfl (hb hby d9_20)
      refine own_st st18 ?_
      show own_Go p e below _ T18 (mkF m 23 #[.val (.ref a), .val (.ref sB), .val (.int (1 : Int32)), .val (.int a0_), .val (.int b0_), .val (.int (own_fits a0_ b0_))] [(.ref sA), (.int (1 : Int32))])
      obtain ⟨cq20, kq20, q20a, q20b, q20c⟩ := isOf hZ e18 EpA
      refine own_callV X18 hx (y := (⟨"java/lang/String", "length", "()I"⟩ : MethodName)) (z := (⟨"java/lang/String", "length", "()I"⟩ : MethodName)) hown (mvT hZ (hw _ (List.mem_of_getElem? (i := 46) rfl))) (mvT hZ (hw _ (List.mem_of_getElem? (i := 47) rfl))) (notFace_of_selects (args := #[]) (mvT hZ (hw _ (List.mem_of_getElem? (i := 49) rfl)))) (mvT hZ (hw _ (List.mem_of_getElem? (i := 49) rfl))) (mvT hZ (hw _ (List.mem_of_getElem? (i := 48) rfl))) (by decide) (own_intB rfl (StrChars.Road.lenW (W := 1) hZ (own_wLen hw) (kI := 4) (hw _ (List.mem_of_getElem? (i := 11) rfl)) (cs := ([a0_, a1_, a2_] : List Int32)) EpA VpA CpA ApA (StrChars.Road.codOf rfl (fun c hc => (hppA c hc).2)) (own_up hppA) (Sta.ext O0.2 SC) hCS l2pA (by decide) (by decide))) q20a q20c (g := (mkF m 23 #[.val (.ref a), .val (.ref sB), .val (.int (1 : Int32)), .val (.int a0_), .val (.int b0_), .val (.int (own_fits a0_ b0_))] [(.ref sA), (.int (1 : Int32))])) rfl (by rw [hml]; rfl) (argsL := []) (rest := [(.int (1 : Int32))]) (lenOf pd_2 rfl) rfl (by show 2 * 0 + _ ≤ _; exact Nat.le_of_eq rfl) (hb hby d9_23) rfl e18 (by decide) (by decide) ?_
      rintro v19 T19 L19 X19 ⟨rfl, rfl, hh19⟩
      have Nq19 := Fr.nil n0
      have N19 := Fr.app N14 Nq19
      show own_Go p e below _ T19 (mkF m 26 #[.val (.ref a), .val (.ref sB), .val (.int (1 : Int32)), .val (.int a0_), .val (.int b0_), .val (.int (own_fits a0_ b0_))] [(.int (3 : Int32)), (.int (1 : Int32))])
      refine own_st (fun t_ k_ => XS.icmpNo X19.here hx rfl (hb hby d9_26) rfl (by decide) k_) ?_
      show own_Go p e below _ T19 (mkF m 29 #[.val (.ref a), .val (.ref sB), .val (.int (1 : Int32)), .val (.int a0_), .val (.int b0_), .val (.int (own_fits a0_ b0_))] [])
      refine own_st (fun t_ k_ => XS.aloadN X19.here hx rfl (hb hby d9_29) rfl rfl k_) ?_
      show own_Go p e below _ T19 (mkF m 30 #[.val (.ref a), .val (.ref sB), .val (.int (1 : Int32)), .val (.int a0_), .val (.int b0_), .val (.int (own_fits a0_ b0_))] [(.ref a)])
      obtain ⟨T21, X21, e21, st21⟩ := getF X19 hx hZ hown (host := "") (Or.inl (hw _ (List.mem_of_getElem? (i := 39) rfl))) Via.refl hh19 Fa (g := (mkF m 30 #[.val (.ref a), .val (.ref sB), .val (.int (1 : Int32)), .val (.int a0_), .val (.int b0_), .val (.int (own_fits a0_ b0_))] [(.ref a)])) rfl rfl (hb hby d9_30)
      refine own_st st21 ?_
      show own_Go p e below _ T21 (mkF m 33 #[.val (.ref a), .val (.ref sB), .val (.int (1 : Int32)), .val (.int a0_), .val (.int b0_), .val (.int (own_fits a0_ b0_))] [(.ref sA)])
      refine own_st (fun t_ k_ => XS.iloadN X21.here hx rfl (hb hby d9_33) rfl k_) ?_
      show own_Go p e below _ T21 (mkF m 34 #[.val (.ref a), .val (.ref sB), .val (.int (1 : Int32)), .val (.int a0_), .val (.int b0_), .val (.int (own_fits a0_ b0_))] [(.int (1 : Int32)), (.ref sA)])
      obtain ⟨cq23, kq23, q23a, q23b, q23c⟩ := isOf hZ e21 EpA
      refine own_callV X21 hx (y := (⟨"java/lang/String", "charAt", "(I)C"⟩ : MethodName)) (z := (⟨"java/lang/String", "charAt", "(I)C"⟩ : MethodName)) hown (mvT hZ (hw _ (List.mem_of_getElem? (i := 70) rfl))) (mvT hZ (hw _ (List.mem_of_getElem? (i := 71) rfl))) (notFace_of_selects (args := #[]) (mvT hZ (hw _ (List.mem_of_getElem? (i := 73) rfl)))) (mvT hZ (hw _ (List.mem_of_getElem? (i := 73) rfl))) (mvT hZ (hw _ (List.mem_of_getElem? (i := 72) rfl))) (by decide) (own_intB rfl (StrChars.Road.chN (W := 0) hZ (own_wChN hw) (kI := 4) (hw _ (List.mem_of_getElem? (i := 11) rfl)) (cs := ([a0_, a1_, a2_] : List Int32)) EpA VpA CpA ApA (StrChars.Road.codOf rfl (fun c hc => (hppA c hc).2)) (own_up hppA) (Sta.ext O0.2 SC) hCS (Sta.ext O0.2 SF) rG l2pA (i := 1) (Nat.le_of_ble_eq_true rfl) (j := (1 : Int32)) rfl (by decide) (by decide))) q23a q23c (g := (mkF m 34 #[.val (.ref a), .val (.ref sB), .val (.int (1 : Int32)), .val (.int a0_), .val (.int b0_), .val (.int (own_fits a0_ b0_))] [(.int (1 : Int32)), (.ref sA)])) rfl (by rw [hml]; rfl) (argsL := [(.int (1 : Int32))]) (rest := []) (lenOf pd_3 rfl) rfl (by show 2 * 0 + _ ≤ _; exact Nat.le_of_eq rfl) (hb hby d9_34) rfl e21 (by decide) (by decide) ?_
      rintro v22 T22 L22 X22 ⟨rfl, rfl, hh22⟩
      have Nq22 := Fr.nil n0
      have N22 := Fr.app N19 Nq22
      show own_Go p e below _ T22 (mkF m 37 #[.val (.ref a), .val (.ref sB), .val (.int (1 : Int32)), .val (.int a0_), .val (.int b0_), .val (.int (own_fits a0_ b0_))] [(.int a1_)])
      refine own_st (fun t_ k_ => XS.istoreN X22.here hx rfl (hb hby d9_37) rfl (l' := #[.val (.ref a), .val (.ref sB), .val (.int (1 : Int32)), .val (.int a1_), .val (.int b0_), .val (.int (own_fits a0_ b0_))]) rfl k_) ?_
      show own_Go p e below _ T22 (mkF m 38 #[.val (.ref a), .val (.ref sB), .val (.int (1 : Int32)), .val (.int a1_), .val (.int b0_), .val (.int (own_fits a0_ b0_))] [])
      refine own_st (fun t_ k_ => XS.aloadN X22.here hx rfl (hb hby d9_38) rfl rfl k_) ?_
      show own_Go p e below _ T22 (mkF m 39 #[.val (.ref a), .val (.ref sB), .val (.int (1 : Int32)), .val (.int a1_), .val (.int b0_), .val (.int (own_fits a0_ b0_))] [(.ref sB)])
      refine own_st (fun t_ k_ => XS.iloadN X22.here hx rfl (hb hby d9_39) rfl k_) ?_
      show own_Go p e below _ T22 (mkF m 40 #[.val (.ref a), .val (.ref sB), .val (.int (1 : Int32)), .val (.int a1_), .val (.int b0_), .val (.int (own_fits a0_ b0_))] [(.int (1 : Int32)), (.ref sB)])
      obtain ⟨cq25, kq25, q25a, q25b, q25c⟩ := isOf hZ hh22 EpB
      refine own_callV X22 hx (y := (⟨"java/lang/String", "charAt", "(I)C"⟩ : MethodName)) (z := (⟨"java/lang/String", "charAt", "(I)C"⟩ : MethodName)) hown (mvT hZ (hw _ (List.mem_of_getElem? (i := 70) rfl))) (mvT hZ (hw _ (List.mem_of_getElem? (i := 71) rfl))) (notFace_of_selects (args := #[]) (mvT hZ (hw _ (List.mem_of_getElem? (i := 73) rfl)))) (mvT hZ (hw _ (List.mem_of_getElem? (i := 73) rfl))) (mvT hZ (hw _ (List.mem_of_getElem? (i := 72) rfl))) (by decide) (own_intB rfl (StrChars.Road.chN (W := 0) hZ (own_wChN hw) (kI := 4) (hw _ (List.mem_of_getElem? (i := 11) rfl)) (cs := ([b0_, b1_, b2_] : List Int32)) EpB VpB CpB ApB (StrChars.Road.codOf rfl (fun c hc => (hppB c hc).2)) (own_up hppB) (Sta.ext O0.2 SC) hCS (Sta.ext O0.2 SF) rG l2pB (i := 1) (Nat.le_of_ble_eq_true rfl) (j := (1 : Int32)) rfl (by decide) (by decide))) q25a q25c (g := (mkF m 40 #[.val (.ref a), .val (.ref sB), .val (.int (1 : Int32)), .val (.int a1_), .val (.int b0_), .val (.int (own_fits a0_ b0_))] [(.int (1 : Int32)), (.ref sB)])) rfl (by rw [hml]; rfl) (argsL := [(.int (1 : Int32))]) (rest := []) (lenOf pd_3 rfl) rfl (by show 2 * 0 + _ ≤ _; exact Nat.le_of_eq rfl) (hb hby d9_40) rfl hh22 (by decide) (by decide) ?_
      rintro v24 T24 L24 X24 ⟨rfl, rfl, hh24⟩
      have Nq24 := Fr.nil n0
      have N24 := Fr.app N22 Nq24
      show own_Go p e below _ T24 (mkF m 43 #[.val (.ref a), .val (.ref sB), .val (.int (1 : Int32)), .val (.int a1_), .val (.int b0_), .val (.int (own_fits a0_ b0_))] [(.int b1_)])
      refine own_st (fun t_ k_ => XS.istore X24.here hx rfl (hb hby d9_43) rfl (l' := #[.val (.ref a), .val (.ref sB), .val (.int (1 : Int32)), .val (.int a1_), .val (.int b1_), .val (.int (own_fits a0_ b0_))]) rfl k_) ?_
      show own_Go p e below _ T24 (mkF m 45 #[.val (.ref a), .val (.ref sB), .val (.int (1 : Int32)), .val (.int a1_), .val (.int b1_), .val (.int (own_fits a0_ b0_))] [])
      refine own_st (fun t_ k_ => XS.iloadN X24.here hx rfl (hb hby d9_45) rfl k_) ?_
      show own_Go p e below _ T24 (mkF m 46 #[.val (.ref a), .val (.ref sB), .val (.int (1 : Int32)), .val (.int a1_), .val (.int b1_), .val (.int (own_fits a0_ b0_))] [(.int a1_)])
      refine own_callS X24 hx (y := (⟨"com/example/hebelwerk/hebelwerk/io/FixedForm", "isCapital", "(C)Z"⟩ : MethodName)) hown (mvT hZ (hw _ (List.mem_of_getElem? (i := 92) rfl))) (mvT hZ (hw _ (List.mem_of_getElem? (i := 93) rfl))) (mvT hZ (hw _ (List.mem_of_getElem? (i := 34) rfl))) (mvT hZ (hw _ (List.mem_of_getElem? (i := 94) rfl))) (by decide) (backOf (W := 0) (rmIC l Z a0 hw [] a1_ h0 n0 (Nat.le_trans Z0 (Keep.refl h0 []).1)) hZ (hw _ (List.mem_of_getElem? (i := 94) rfl)) (hw _ (List.mem_of_getElem? (i := 34) rfl)) (by decide) (by decide)) (g := (mkF m 46 #[.val (.ref a), .val (.ref sB), .val (.int (1 : Int32)), .val (.int a1_), .val (.int b1_), .val (.int (own_fits a0_ b0_))] [(.int a1_)])) rfl (by rw [hml]; rfl) (argsL := [(.int a1_)]) (rest := []) (lenOf pd_4 rfl) rfl (by show 2 * 0 + _ ≤ _; exact Nat.le_of_eq rfl) (hb hby d9_46) rfl hh24 (by decide) (by decide) ?_
      rintro v26 T26 L26 X26 ⟨rfl, Nq26, hh26⟩
      have N26 := Fr.app N24 Nq26
      show own_Go p e below _ T26 (mkF m 49 #[.val (.ref a), .val (.ref sB), .val (.int (1 : Int32)), .val (.int a1_), .val (.int b1_), .val (.int (own_fits a0_ b0_))] [(.int (own_cap a1_))])
      refine own_join (α := Int32) (F := fun f1_ => f1_ = own_fits a1_ b1_) (T' := T26) (g' := fun f1_ => (mkF m 85 #[.val (.ref a), .val (.ref sB), .val (.int (1 : Int32)), .val (.int a1_), .val (.int b1_), .val (.int (own_fits a0_ b0_))] [(.int f1_)])) (fun f1_ h_f1_ => ?_) (fun J_f1_ => ?_)
      · show own_Go p e below _ T26 (mkF m 85 #[.val (.ref a), .val (.ref sB), .val (.int (1 : Int32)), .val (.int a1_), .val (.int b1_), .val (.int (own_fits a0_ b0_))] [(.int f1_)])
        subst h_f1_
        show own_Go p e below _ T26 (mkF m 85 #[.val (.ref a), .val (.ref sB), .val (.int (1 : Int32)), .val (.int a1_), .val (.int b1_), .val (.int (own_fits a0_ b0_))] [(.int (own_fits a1_ b1_))])
        refine own_st (fun t_ k_ => XS.istore X26.here hx rfl (hb hby d9_85) rfl (l' := #[.val (.ref a), .val (.ref sB), .val (.int (1 : Int32)), .val (.int a1_), .val (.int b1_), .val (.int (own_fits a1_ b1_))]) rfl k_) ?_
        show own_Go p e below _ T26 (mkF m 87 #[.val (.ref a), .val (.ref sB), .val (.int (1 : Int32)), .val (.int a1_), .val (.int b1_), .val (.int (own_fits a1_ b1_))] [])
        refine own_st (fun t_ k_ => XS.iload X26.here hx rfl (hb hby d9_87) rfl k_) ?_
        show own_Go p e below _ T26 (mkF m 89 #[.val (.ref a), .val (.ref sB), .val (.int (1 : Int32)), .val (.int a1_), .val (.int b1_), .val (.int (own_fits a1_ b1_))] [(.int (own_fits a1_ b1_))])
        by_cases hz1_ : (own_fits a1_ b1_) = (0 : Int32)
        · refine own_st (fun t_ k_ => XS.ifNo X26.here hx rfl (hb hby d9_89) rfl ((if0 _ _).trans (teq hz1_).2) k_) ?_
          show own_Go p e below _ T26 (mkF m 92 #[.val (.ref a), .val (.ref sB), .val (.int (1 : Int32)), .val (.int a1_), .val (.int b1_), .val (.int (own_fits a1_ b1_))] [])
          refine own_st (fun t_ k_ => XS.iconst X26.here hx rfl (hb hby d9_92) k_) ?_
          show own_Go p e below _ T26 (mkF m 93 #[.val (.ref a), .val (.ref sB), .val (.int (1 : Int32)), .val (.int a1_), .val (.int b1_), .val (.int (own_fits a1_ b1_))] [(.int (0 : Int32))])
          refine own_retN X26 hx hlk (t := .boolean) Bd.returns (by simp) (hb hby d9_93) ?_ (by decide) (by decide)
          show QR (.int r) h0 n0 _ T26.heap _
          rw [hh26]
          exact ⟨by rw [hr, if_neg hz0_, if_pos hz1_]; rfl, N26, rfl⟩
        · refine own_st (fun t_ k_ => XS.ifYes X26.here hx rfl (pc0 := 89) (pc' := 94) rfl (hb hby d9_89) rfl ((if0 _ _).trans (feq hz1_).2) (by decide) (by decide) k_) ?_
          show own_Go p e below _ T26 (mkF m 94 #[.val (.ref a), .val (.ref sB), .val (.int (1 : Int32)), .val (.int a1_), .val (.int b1_), .val (.int (own_fits a1_ b1_))] [])
          refine own_st (fun t_ k_ => XS.iinc X26.here hx rfl (hb hby d9_94) rfl (l' := #[.val (.ref a), .val (.ref sB), .val (.int (2 : Int32)), .val (.int a1_), .val (.int b1_), .val (.int (own_fits a1_ b1_))]) rfl k_) ?_
          show own_Go p e below _ T26 (mkF m 97 #[.val (.ref a), .val (.ref sB), .val (.int (2 : Int32)), .val (.int a1_), .val (.int b1_), .val (.int (own_fits a1_ b1_))] [])
          refine own_st (fun t_ k_ => XS.goto X26.here hx rfl (pc0 := 97) (pc' := 18) rfl (hb hby d9_97) (by decide) (by decide) k_) ?_
          show own_Go p e below _ T26 (mkF m 18 #[.val (.ref a), .val (.ref sB), .val (.int (2 : Int32)), .val (.int a1_), .val (.int b1_), .val (.int (own_fits a1_ b1_))] [])
          refine own_st (fun t_ k_ => XS.iloadN X26.here hx rfl (hb hby d9_18) rfl k_) ?_
          show own_Go p e below _ T26 (mkF m 19 #[.val (.ref a), .val (.ref sB), .val (.int (2 : Int32)), .val (.int a1_), .val (.int b1_), .val (.int (own_fits a1_ b1_))] [(.int (2 : Int32))])
          refine own_st (fun t_ k_ => XS.aloadN X26.here hx rfl (hb hby d9_19) rfl rfl k_) ?_
          show own_Go p e below _ T26 (mkF m 20 #[.val (.ref a), .val (.ref sB), .val (.int (2 : Int32)), .val (.int a1_), .val (.int b1_), .val (.int (own_fits a1_ b1_))] [(.ref a), (.int (2 : Int32))])
          obtain ⟨T30, X30, e30, st30⟩ := getF X26 hx hZ hown (host := "") (Or.inl (hw _ (List.mem_of_getElem? (i := 39) rfl))) Via.refl hh26 Fa (g := (mkF m 20 #[.val (.ref a), .val (.ref sB), .val (.int (2 : Int32)), .val (.int a1_), .val (.int b1_), .val (.int (own_fits a1_ b1_))] [(.ref a), (.int (2 : Int32))])) rfl rfl (hb hby d9_20)
          refine own_st st30 ?_
          show own_Go p e below _ T30 (mkF m 23 #[.val (.ref a), .val (.ref sB), .val (.int (2 : Int32)), .val (.int a1_), .val (.int b1_), .val (.int (own_fits a1_ b1_))] [(.ref sA), (.int (2 : Int32))])
          obtain ⟨cq32, kq32, q32a, q32b, q32c⟩ := isOf hZ e30 EpA
          refine own_callV X30 hx (y := (⟨"java/lang/String", "length", "()I"⟩ : MethodName)) (z := (⟨"java/lang/String", "length", "()I"⟩ : MethodName)) hown (mvT hZ (hw _ (List.mem_of_getElem? (i := 46) rfl))) (mvT hZ (hw _ (List.mem_of_getElem? (i := 47) rfl))) (notFace_of_selects (args := #[]) (mvT hZ (hw _ (List.mem_of_getElem? (i := 49) rfl)))) (mvT hZ (hw _ (List.mem_of_getElem? (i := 49) rfl))) (mvT hZ (hw _ (List.mem_of_getElem? (i := 48) rfl))) (by decide) (own_intB rfl (StrChars.Road.lenW (W := 1) hZ (own_wLen hw) (kI := 4) (hw _ (List.mem_of_getElem? (i := 11) rfl)) (cs := ([a0_, a1_, a2_] : List Int32)) EpA VpA CpA ApA (StrChars.Road.codOf rfl (fun c hc => (hppA c hc).2)) (own_up hppA) (Sta.ext O0.2 SC) hCS l2pA (by decide) (by decide))) q32a q32c (g := (mkF m 23 #[.val (.ref a), .val (.ref sB), .val (.int (2 : Int32)), .val (.int a1_), .val (.int b1_), .val (.int (own_fits a1_ b1_))] [(.ref sA), (.int (2 : Int32))])) rfl (by rw [hml]; rfl) (argsL := []) (rest := [(.int (2 : Int32))]) (lenOf pd_2 rfl) rfl (by show 2 * 0 + _ ≤ _; exact Nat.le_of_eq rfl) (hb hby d9_23) rfl e30 (by decide) (by decide) ?_
          rintro v31 T31 L31 X31 ⟨rfl, rfl, hh31⟩
          have Nq31 := Fr.nil n0
          have N31 := Fr.app N26 Nq31
          show own_Go p e below _ T31 (mkF m 26 #[.val (.ref a), .val (.ref sB), .val (.int (2 : Int32)), .val (.int a1_), .val (.int b1_), .val (.int (own_fits a1_ b1_))] [(.int (3 : Int32)), (.int (2 : Int32))])
          refine own_st (fun t_ k_ => XS.icmpNo X31.here hx rfl (hb hby d9_26) rfl (by decide) k_) ?_
          show own_Go p e below _ T31 (mkF m 29 #[.val (.ref a), .val (.ref sB), .val (.int (2 : Int32)), .val (.int a1_), .val (.int b1_), .val (.int (own_fits a1_ b1_))] [])
          refine own_st (fun t_ k_ => XS.aloadN X31.here hx rfl (hb hby d9_29) rfl rfl k_) ?_
          show own_Go p e below _ T31 (mkF m 30 #[.val (.ref a), .val (.ref sB), .val (.int (2 : Int32)), .val (.int a1_), .val (.int b1_), .val (.int (own_fits a1_ b1_))] [(.ref a)])
          obtain ⟨T33, X33, e33, st33⟩ := getF X31 hx hZ hown (host := "") (Or.inl (hw _ (List.mem_of_getElem? (i := 39) rfl))) Via.refl hh31 Fa (g := (mkF m 30 #[.val (.ref a), .val (.ref sB), .val (.int (2 : Int32)), .val (.int a1_), .val (.int b1_), .val (.int (own_fits a1_ b1_))] [(.ref a)])) rfl rfl (hb hby d9_30)
          refine own_st st33 ?_
          show own_Go p e below _ T33 (mkF m 33 #[.val (.ref a), .val (.ref sB), .val (.int (2 : Int32)), .val (.int a1_), .val (.int b1_), .val (.int (own_fits a1_ b1_))] [(.ref sA)])
          refine own_st (fun t_ k_ => XS.iloadN X33.here hx rfl (hb hby d9_33) rfl k_) ?_
          show own_Go p e below _ T33 (mkF m 34 #[.val (.ref a), .val (.ref sB), .val (.int (2 : Int32)), .val (.int a1_), .val (.int b1_), .val (.int (own_fits a1_ b1_))] [(.int (2 : Int32)), (.ref sA)])
          obtain ⟨cq35, kq35, q35a, q35b, q35c⟩ := isOf hZ e33 EpA
          refine own_callV X33 hx (y := (⟨"java/lang/String", "charAt", "(I)C"⟩ : MethodName)) (z := (⟨"java/lang/String", "charAt", "(I)C"⟩ : MethodName)) hown (mvT hZ (hw _ (List.mem_of_getElem? (i := 70) rfl))) (mvT hZ (hw _ (List.mem_of_getElem? (i := 71) rfl))) (notFace_of_selects (args := #[]) (mvT hZ (hw _ (List.mem_of_getElem? (i := 73) rfl)))) (mvT hZ (hw _ (List.mem_of_getElem? (i := 73) rfl))) (mvT hZ (hw _ (List.mem_of_getElem? (i := 72) rfl))) (by decide) (own_intB rfl (StrChars.Road.chN (W := 0) hZ (own_wChN hw) (kI := 4) (hw _ (List.mem_of_getElem? (i := 11) rfl)) (cs := ([a0_, a1_, a2_] : List Int32)) EpA VpA CpA ApA (StrChars.Road.codOf rfl (fun c hc => (hppA c hc).2)) (own_up hppA) (Sta.ext O0.2 SC) hCS (Sta.ext O0.2 SF) rG l2pA (i := 2) (Nat.le_of_ble_eq_true rfl) (j := (2 : Int32)) rfl (by decide) (by decide))) q35a q35c (g := (mkF m 34 #[.val (.ref a), .val (.ref sB), .val (.int (2 : Int32)), .val (.int a1_), .val (.int b1_), .val (.int (own_fits a1_ b1_))] [(.int (2 : Int32)), (.ref sA)])) rfl (by rw [hml]; rfl) (argsL := [(.int (2 : Int32))]) (rest := []) (lenOf pd_3 rfl) rfl (by show 2 * 0 + _ ≤ _; exact Nat.le_of_eq rfl) (hb hby d9_34) rfl e33 (by decide) (by decide) ?_
          rintro v34 T34 L34 X34 ⟨rfl, rfl, hh34⟩
          have Nq34 := Fr.nil n0
          have N34 := Fr.app N31 Nq34
          show own_Go p e below _ T34 (mkF m 37 #[.val (.ref a), .val (.ref sB), .val (.int (2 : Int32)), .val (.int a1_), .val (.int b1_), .val (.int (own_fits a1_ b1_))] [(.int a2_)])
          refine own_st (fun t_ k_ => XS.istoreN X34.here hx rfl (hb hby d9_37) rfl (l' := #[.val (.ref a), .val (.ref sB), .val (.int (2 : Int32)), .val (.int a2_), .val (.int b1_), .val (.int (own_fits a1_ b1_))]) rfl k_) ?_
          show own_Go p e below _ T34 (mkF m 38 #[.val (.ref a), .val (.ref sB), .val (.int (2 : Int32)), .val (.int a2_), .val (.int b1_), .val (.int (own_fits a1_ b1_))] [])
          refine own_st (fun t_ k_ => XS.aloadN X34.here hx rfl (hb hby d9_38) rfl rfl k_) ?_
          show own_Go p e below _ T34 (mkF m 39 #[.val (.ref a), .val (.ref sB), .val (.int (2 : Int32)), .val (.int a2_), .val (.int b1_), .val (.int (own_fits a1_ b1_))] [(.ref sB)])
          refine own_st (fun t_ k_ => XS.iloadN X34.here hx rfl (hb hby d9_39) rfl k_) ?_
          show own_Go p e below _ T34 (mkF m 40 #[.val (.ref a), .val (.ref sB), .val (.int (2 : Int32)), .val (.int a2_), .val (.int b1_), .val (.int (own_fits a1_ b1_))] [(.int (2 : Int32)), (.ref sB)])
          obtain ⟨cq37, kq37, q37a, q37b, q37c⟩ := isOf hZ hh34 EpB
          refine own_callV X34 hx (y := (⟨"java/lang/String", "charAt", "(I)C"⟩ : MethodName)) (z := (⟨"java/lang/String", "charAt", "(I)C"⟩ : MethodName)) hown (mvT hZ (hw _ (List.mem_of_getElem? (i := 70) rfl))) (mvT hZ (hw _ (List.mem_of_getElem? (i := 71) rfl))) (notFace_of_selects (args := #[]) (mvT hZ (hw _ (List.mem_of_getElem? (i := 73) rfl)))) (mvT hZ (hw _ (List.mem_of_getElem? (i := 73) rfl))) (mvT hZ (hw _ (List.mem_of_getElem? (i := 72) rfl))) (by decide) (own_intB rfl (StrChars.Road.chN (W := 0) hZ (own_wChN hw) (kI := 4) (hw _ (List.mem_of_getElem? (i := 11) rfl)) (cs := ([b0_, b1_, b2_] : List Int32)) EpB VpB CpB ApB (StrChars.Road.codOf rfl (fun c hc => (hppB c hc).2)) (own_up hppB) (Sta.ext O0.2 SC) hCS (Sta.ext O0.2 SF) rG l2pB (i := 2) (Nat.le_of_ble_eq_true rfl) (j := (2 : Int32)) rfl (by decide) (by decide))) q37a q37c (g := (mkF m 40 #[.val (.ref a), .val (.ref sB), .val (.int (2 : Int32)), .val (.int a2_), .val (.int b1_), .val (.int (own_fits a1_ b1_))] [(.int (2 : Int32)), (.ref sB)])) rfl (by rw [hml]; rfl) (argsL := [(.int (2 : Int32))]) (rest := []) (lenOf pd_3 rfl) rfl (by show 2 * 0 + _ ≤ _; exact Nat.le_of_eq rfl) (hb hby d9_40) rfl hh34 (by decide) (by decide) ?_
          rintro v36 T36 L36 X36 ⟨rfl, rfl, hh36⟩
          have Nq36 := Fr.nil n0
          have N36 := Fr.app N34 Nq36
          show own_Go p e below _ T36 (mkF m 43 #[.val (.ref a), .val (.ref sB), .val (.int (2 : Int32)), .val (.int a2_), .val (.int b1_), .val (.int (own_fits a1_ b1_))] [(.int b2_)])
          refine own_st (fun t_ k_ => XS.istore X36.here hx rfl (hb hby d9_43) rfl (l' := #[.val (.ref a), .val (.ref sB), .val (.int (2 : Int32)), .val (.int a2_), .val (.int b2_), .val (.int (own_fits a1_ b1_))]) rfl k_) ?_
          show own_Go p e below _ T36 (mkF m 45 #[.val (.ref a), .val (.ref sB), .val (.int (2 : Int32)), .val (.int a2_), .val (.int b2_), .val (.int (own_fits a1_ b1_))] [])
          refine own_st (fun t_ k_ => XS.iloadN X36.here hx rfl (hb hby d9_45) rfl k_) ?_
          show own_Go p e below _ T36 (mkF m 46 #[.val (.ref a), .val (.ref sB), .val (.int (2 : Int32)), .val (.int a2_), .val (.int b2_), .val (.int (own_fits a1_ b1_))] [(.int a2_)])
          refine own_callS X36 hx (y := (⟨"com/example/hebelwerk/hebelwerk/io/FixedForm", "isCapital", "(C)Z"⟩ : MethodName)) hown (mvT hZ (hw _ (List.mem_of_getElem? (i := 92) rfl))) (mvT hZ (hw _ (List.mem_of_getElem? (i := 93) rfl))) (mvT hZ (hw _ (List.mem_of_getElem? (i := 34) rfl))) (mvT hZ (hw _ (List.mem_of_getElem? (i := 94) rfl))) (by decide) (backOf (W := 0) (rmIC l Z a0 hw [] a2_ h0 n0 (Nat.le_trans Z0 (Keep.refl h0 []).1)) hZ (hw _ (List.mem_of_getElem? (i := 94) rfl)) (hw _ (List.mem_of_getElem? (i := 34) rfl)) (by decide) (by decide)) (g := (mkF m 46 #[.val (.ref a), .val (.ref sB), .val (.int (2 : Int32)), .val (.int a2_), .val (.int b2_), .val (.int (own_fits a1_ b1_))] [(.int a2_)])) rfl (by rw [hml]; rfl) (argsL := [(.int a2_)]) (rest := []) (lenOf pd_4 rfl) rfl (by show 2 * 0 + _ ≤ _; exact Nat.le_of_eq rfl) (hb hby d9_46) rfl hh36 (by decide) (by decide) ?_
          rintro v38 T38 L38 X38 ⟨rfl, Nq38, hh38⟩
          have N38 := Fr.app N36 Nq38
          show own_Go p e below _ T38 (mkF m 49 #[.val (.ref a), .val (.ref sB), .val (.int (2 : Int32)), .val (.int a2_), .val (.int b2_), .val (.int (own_fits a1_ b1_))] [(.int (own_cap a2_))])
          refine own_join (α := Int32) (F := fun f2_ => f2_ = own_fits a2_ b2_) (T' := T38) (g' := fun f2_ => (mkF m 85 #[.val (.ref a), .val (.ref sB), .val (.int (2 : Int32)), .val (.int a2_), .val (.int b2_), .val (.int (own_fits a1_ b1_))] [(.int f2_)])) (fun f2_ h_f2_ => ?_) (fun J_f2_ => ?_)
          · show own_Go p e below _ T38 (mkF m 85 #[.val (.ref a), .val (.ref sB), .val (.int (2 : Int32)), .val (.int a2_), .val (.int b2_), .val (.int (own_fits a1_ b1_))] [(.int f2_)])
            subst h_f2_
            show own_Go p e below _ T38 (mkF m 85 #[.val (.ref a), .val (.ref sB), .val (.int (2 : Int32)), .val (.int a2_), .val (.int b2_), .val (.int (own_fits a1_ b1_))] [(.int (own_fits a2_ b2_))])
            refine own_st (fun t_ k_ => XS.istore X38.here hx rfl (hb hby d9_85) rfl (l' := #[.val (.ref a), .val (.ref sB), .val (.int (2 : Int32)), .val (.int a2_), .val (.int b2_), .val (.int (own_fits a2_ b2_))]) rfl k_) ?_
            show own_Go p e below _ T38 (mkF m 87 #[.val (.ref a), .val (.ref sB), .val (.int (2 : Int32)), .val (.int a2_), .val (.int b2_), .val (.int (own_fits a2_ b2_))] [])
            refine own_st (fun t_ k_ => XS.iload X38.here hx rfl (hb hby d9_87) rfl k_) ?_
            show own_Go p e below _ T38 (mkF m 89 #[.val (.ref a), .val (.ref sB), .val (.int (2 : Int32)), .val (.int a2_), .val (.int b2_), .val (.int (own_fits a2_ b2_))] [(.int (own_fits a2_ b2_))])
            by_cases hz2_ : (own_fits a2_ b2_) = (0 : Int32)
            · refine own_st (fun t_ k_ => XS.ifNo X38.here hx rfl (hb hby d9_89) rfl ((if0 _ _).trans (teq hz2_).2) k_) ?_
              show own_Go p e below _ T38 (mkF m 92 #[.val (.ref a), .val (.ref sB), .val (.int (2 : Int32)), .val (.int a2_), .val (.int b2_), .val (.int (own_fits a2_ b2_))] [])
              refine own_st (fun t_ k_ => XS.iconst X38.here hx rfl (hb hby d9_92) k_) ?_
              show own_Go p e below _ T38 (mkF m 93 #[.val (.ref a), .val (.ref sB), .val (.int (2 : Int32)), .val (.int a2_), .val (.int b2_), .val (.int (own_fits a2_ b2_))] [(.int (0 : Int32))])
              refine own_retN X38 hx hlk (t := .boolean) Bd.returns (by simp) (hb hby d9_93) ?_ (by decide) (by decide)
              show QR (.int r) h0 n0 _ T38.heap _
              rw [hh38]
              exact ⟨by rw [hr, if_neg hz0_, if_neg hz1_, if_pos hz2_]; rfl, N38, rfl⟩
            · refine own_st (fun t_ k_ => XS.ifYes X38.here hx rfl (pc0 := 89) (pc' := 94) rfl (hb hby d9_89) rfl ((if0 _ _).trans (feq hz2_).2) (by decide) (by decide) k_) ?_
              show own_Go p e below _ T38 (mkF m 94 #[.val (.ref a), .val (.ref sB), .val (.int (2 : Int32)), .val (.int a2_), .val (.int b2_), .val (.int (own_fits a2_ b2_))] [])
              refine own_st (fun t_ k_ => XS.iinc X38.here hx rfl (hb hby d9_94) rfl (l' := #[.val (.ref a), .val (.ref sB), .val (.int (3 : Int32)), .val (.int a2_), .val (.int b2_), .val (.int (own_fits a2_ b2_))]) rfl k_) ?_
              show own_Go p e below _ T38 (mkF m 97 #[.val (.ref a), .val (.ref sB), .val (.int (3 : Int32)), .val (.int a2_), .val (.int b2_), .val (.int (own_fits a2_ b2_))] [])
              refine own_st (fun t_ k_ => XS.goto X38.here hx rfl (pc0 := 97) (pc' := 18) rfl (hb hby d9_97) (by decide) (by decide) k_) ?_
              show own_Go p e below _ T38 (mkF m 18 #[.val (.ref a), .val (.ref sB), .val (.int (3 : Int32)), .val (.int a2_), .val (.int b2_), .val (.int (own_fits a2_ b2_))] [])
              refine own_st (fun t_ k_ => XS.iloadN X38.here hx rfl (hb hby d9_18) rfl k_) ?_
              show own_Go p e below _ T38 (mkF m 19 #[.val (.ref a), .val (.ref sB), .val (.int (3 : Int32)), .val (.int a2_), .val (.int b2_), .val (.int (own_fits a2_ b2_))] [(.int (3 : Int32))])
              refine own_st (fun t_ k_ => XS.aloadN X38.here hx rfl (hb hby d9_19) rfl rfl k_) ?_
              show own_Go p e below _ T38 (mkF m 20 #[.val (.ref a), .val (.ref sB), .val (.int (3 : Int32)), .val (.int a2_), .val (.int b2_), .val (.int (own_fits a2_ b2_))] [(.ref a), (.int (3 : Int32))])
              obtain ⟨T42, X42, e42, st42⟩ := getF X38 hx hZ hown (host := "") (Or.inl (hw _ (List.mem_of_getElem? (i := 39) rfl))) Via.refl hh38 Fa (g := (mkF m 20 #[.val (.ref a), .val (.ref sB), .val (.int (3 : Int32)), .val (.int a2_), .val (.int b2_), .val (.int (own_fits a2_ b2_))] [(.ref a), (.int (3 : Int32))])) rfl rfl (hb hby d9_20)
              refine own_st st42 ?_
              show own_Go p e below _ T42 (mkF m 23 #[.val (.ref a), .val (.ref sB), .val (.int (3 : Int32)), .val (.int a2_), .val (.int b2_), .val (.int (own_fits a2_ b2_))] [(.ref sA), (.int (3 : Int32))])
              obtain ⟨cq44, kq44, q44a, q44b, q44c⟩ := isOf hZ e42 EpA
              refine own_callV X42 hx (y := (⟨"java/lang/String", "length", "()I"⟩ : MethodName)) (z := (⟨"java/lang/String", "length", "()I"⟩ : MethodName)) hown (mvT hZ (hw _ (List.mem_of_getElem? (i := 46) rfl))) (mvT hZ (hw _ (List.mem_of_getElem? (i := 47) rfl))) (notFace_of_selects (args := #[]) (mvT hZ (hw _ (List.mem_of_getElem? (i := 49) rfl)))) (mvT hZ (hw _ (List.mem_of_getElem? (i := 49) rfl))) (mvT hZ (hw _ (List.mem_of_getElem? (i := 48) rfl))) (by decide) (own_intB rfl (StrChars.Road.lenW (W := 1) hZ (own_wLen hw) (kI := 4) (hw _ (List.mem_of_getElem? (i := 11) rfl)) (cs := ([a0_, a1_, a2_] : List Int32)) EpA VpA CpA ApA (StrChars.Road.codOf rfl (fun c hc => (hppA c hc).2)) (own_up hppA) (Sta.ext O0.2 SC) hCS l2pA (by decide) (by decide))) q44a q44c (g := (mkF m 23 #[.val (.ref a), .val (.ref sB), .val (.int (3 : Int32)), .val (.int a2_), .val (.int b2_), .val (.int (own_fits a2_ b2_))] [(.ref sA), (.int (3 : Int32))])) rfl (by rw [hml]; rfl) (argsL := []) (rest := [(.int (3 : Int32))]) (lenOf pd_2 rfl) rfl (by show 2 * 0 + _ ≤ _; exact Nat.le_of_eq rfl) (hb hby d9_23) rfl e42 (by decide) (by decide) ?_
              rintro v43 T43 L43 X43 ⟨rfl, rfl, hh43⟩
              have Nq43 := Fr.nil n0
              have N43 := Fr.app N38 Nq43
              show own_Go p e below _ T43 (mkF m 26 #[.val (.ref a), .val (.ref sB), .val (.int (3 : Int32)), .val (.int a2_), .val (.int b2_), .val (.int (own_fits a2_ b2_))] [(.int (3 : Int32)), (.int (3 : Int32))])
              refine own_st (fun t_ k_ => XS.icmpYes X43.here hx rfl (pc0 := 26) (pc' := 100) rfl (hb hby d9_26) rfl (by decide) (by decide) (by decide) k_) ?_
              show own_Go p e below _ T43 (mkF m 100 #[.val (.ref a), .val (.ref sB), .val (.int (3 : Int32)), .val (.int a2_), .val (.int b2_), .val (.int (own_fits a2_ b2_))] [])
              refine own_st (fun t_ k_ => XS.iconst X43.here hx rfl (hb hby d9_100) k_) ?_
              show own_Go p e below _ T43 (mkF m 101 #[.val (.ref a), .val (.ref sB), .val (.int (3 : Int32)), .val (.int a2_), .val (.int b2_), .val (.int (own_fits a2_ b2_))] [(.int (1 : Int32))])
              refine own_retN X43 hx hlk (t := .boolean) Bd.returns (by simp) (hb hby d9_101) ?_ (by decide) (by decide)
              show QR (.int r) h0 n0 _ T43.heap _
              rw [hh43]
              exact ⟨by rw [hr, if_neg hz0_, if_neg hz1_, if_neg hz2_]; try rfl, N43, rfl⟩
          · show own_Go p e below _ T38 (mkF m 49 #[.val (.ref a), .val (.ref sB), .val (.int (2 : Int32)), .val (.int a2_), .val (.int b2_), .val (.int (own_fits a1_ b1_))] [(.int (own_cap a2_))])
            by_cases hcap : (own_cap a2_) = (0 : Int32)
            · refine own_st (fun t_ k_ => XS.ifYes X38.here hx rfl (pc0 := 49) (pc' := 74) rfl (hb hby d9_49) rfl ((if0 _ _).trans (teq hcap).1) (by decide) (by decide) k_) ?_
              show own_Go p e below _ T38 (mkF m 74 #[.val (.ref a), .val (.ref sB), .val (.int (2 : Int32)), .val (.int a2_), .val (.int b2_), .val (.int (own_fits a1_ b1_))] [])
              have hf_ := own_fc (b := b2_) hcap
              refine own_st (fun t_ k_ => XS.iload X38.here hx rfl (hb hby d9_74) rfl k_) ?_
              show own_Go p e below _ T38 (mkF m 76 #[.val (.ref a), .val (.ref sB), .val (.int (2 : Int32)), .val (.int a2_), .val (.int b2_), .val (.int (own_fits a1_ b1_))] [(.int b2_)])
              refine own_st (fun t_ k_ => XS.iloadN X38.here hx rfl (hb hby d9_76) rfl k_) ?_
              show own_Go p e below _ T38 (mkF m 77 #[.val (.ref a), .val (.ref sB), .val (.int (2 : Int32)), .val (.int a2_), .val (.int b2_), .val (.int (own_fits a1_ b1_))] [(.int a2_), (.int b2_)])
              by_cases hl39 : b2_ = a2_
              · refine own_st (fun t_ k_ => XS.icmpNo X38.here hx rfl (hb hby d9_77) rfl (teq hl39).2 k_) ?_
                show own_Go p e below _ T38 (mkF m 80 #[.val (.ref a), .val (.ref sB), .val (.int (2 : Int32)), .val (.int a2_), .val (.int b2_), .val (.int (own_fits a1_ b1_))] [])
                refine own_st (fun t_ k_ => XS.iconst X38.here hx rfl (hb hby d9_80) k_) ?_
                show own_Go p e below _ T38 (mkF m 81 #[.val (.ref a), .val (.ref sB), .val (.int (2 : Int32)), .val (.int a2_), .val (.int b2_), .val (.int (own_fits a1_ b1_))] [(.int (1 : Int32))])
                refine own_st (fun t_ k_ => XS.goto X38.here hx rfl (pc0 := 81) (pc' := 85) rfl (hb hby d9_81) (by decide) (by decide) k_) ?_
                show own_Go p e below _ T38 (mkF m 85 #[.val (.ref a), .val (.ref sB), .val (.int (2 : Int32)), .val (.int a2_), .val (.int b2_), .val (.int (own_fits a1_ b1_))] [(.int (1 : Int32))])
                exact J_f2_ (1 : Int32) (by rw [hf_, if_pos hl39])
              · refine own_st (fun t_ k_ => XS.icmpYes X38.here hx rfl (pc0 := 77) (pc' := 84) rfl (hb hby d9_77) rfl (feq hl39).2 (by decide) (by decide) k_) ?_
                show own_Go p e below _ T38 (mkF m 84 #[.val (.ref a), .val (.ref sB), .val (.int (2 : Int32)), .val (.int a2_), .val (.int b2_), .val (.int (own_fits a1_ b1_))] [])
                refine own_st (fun t_ k_ => XS.iconst X38.here hx rfl (hb hby d9_84) k_) ?_
                show own_Go p e below _ T38 (mkF m 85 #[.val (.ref a), .val (.ref sB), .val (.int (2 : Int32)), .val (.int a2_), .val (.int b2_), .val (.int (own_fits a1_ b1_))] [(.int (0 : Int32))])
                exact J_f2_ (0 : Int32) (by rw [hf_, if_neg hl39])
            · refine own_st (fun t_ k_ => XS.ifNo X38.here hx rfl (hb hby d9_49) rfl ((if0 _ _).trans (feq hcap).1) k_) ?_
              show own_Go p e below _ T38 (mkF m 52 #[.val (.ref a), .val (.ref sB), .val (.int (2 : Int32)), .val (.int a2_), .val (.int b2_), .val (.int (own_fits a1_ b1_))] [])
              have hf_ := own_fn (b := b2_) hcap
              refine own_st (fun t_ k_ => XS.iload X38.here hx rfl (hb hby d9_52) rfl k_) ?_
              show own_Go p e below _ T38 (mkF m 54 #[.val (.ref a), .val (.ref sB), .val (.int (2 : Int32)), .val (.int a2_), .val (.int b2_), .val (.int (own_fits a1_ b1_))] [(.int b2_)])
              refine own_st (fun t_ k_ => XS.bipush X38.here hx rfl (hb hby d9_54) k_) ?_
              show own_Go p e below _ T38 (mkF m 56 #[.val (.ref a), .val (.ref sB), .val (.int (2 : Int32)), .val (.int a2_), .val (.int b2_), .val (.int (own_fits a1_ b1_))] [(.int (48 : Int32)), (.int b2_)])
              by_cases hl40 : b2_ < (48 : Int32)
              · refine own_st (fun t_ k_ => XS.icmpYes X38.here hx rfl (pc0 := 56) (pc' := 70) rfl (hb hby d9_56) rfl (tlt hl40).1 (by decide) (by decide) k_) ?_
                show own_Go p e below _ T38 (mkF m 70 #[.val (.ref a), .val (.ref sB), .val (.int (2 : Int32)), .val (.int a2_), .val (.int b2_), .val (.int (own_fits a1_ b1_))] [])
                refine own_st (fun t_ k_ => XS.iconst X38.here hx rfl (hb hby d9_70) k_) ?_
                show own_Go p e below _ T38 (mkF m 71 #[.val (.ref a), .val (.ref sB), .val (.int (2 : Int32)), .val (.int a2_), .val (.int b2_), .val (.int (own_fits a1_ b1_))] [(.int (0 : Int32))])
                refine own_st (fun t_ k_ => XS.goto X38.here hx rfl (pc0 := 71) (pc' := 85) rfl (hb hby d9_71) (by decide) (by decide) k_) ?_
                show own_Go p e below _ T38 (mkF m 85 #[.val (.ref a), .val (.ref sB), .val (.int (2 : Int32)), .val (.int a2_), .val (.int b2_), .val (.int (own_fits a1_ b1_))] [(.int (0 : Int32))])
                exact J_f2_ (0 : Int32) (by rw [hf_, if_pos hl40])
              · refine own_st (fun t_ k_ => XS.icmpNo X38.here hx rfl (hb hby d9_56) rfl (flt hl40).1 k_) ?_
                show own_Go p e below _ T38 (mkF m 59 #[.val (.ref a), .val (.ref sB), .val (.int (2 : Int32)), .val (.int a2_), .val (.int b2_), .val (.int (own_fits a1_ b1_))] [])
                refine own_st (fun t_ k_ => XS.iload X38.here hx rfl (hb hby d9_59) rfl k_) ?_
                show own_Go p e below _ T38 (mkF m 61 #[.val (.ref a), .val (.ref sB), .val (.int (2 : Int32)), .val (.int a2_), .val (.int b2_), .val (.int (own_fits a1_ b1_))] [(.int b2_)])
                refine own_st (fun t_ k_ => XS.bipush X38.here hx rfl (hb hby d9_61) k_) ?_
                show own_Go p e below _ T38 (mkF m 63 #[.val (.ref a), .val (.ref sB), .val (.int (2 : Int32)), .val (.int a2_), .val (.int b2_), .val (.int (own_fits a1_ b1_))] [(.int (57 : Int32)), (.int b2_)])
                by_cases hl41 : (57 : Int32) < b2_
                · refine own_st (fun t_ k_ => XS.icmpYes X38.here hx rfl (pc0 := 63) (pc' := 70) rfl (hb hby d9_63) rfl (tlt hl41).2.2.1 (by decide) (by decide) k_) ?_
                  show own_Go p e below _ T38 (mkF m 70 #[.val (.ref a), .val (.ref sB), .val (.int (2 : Int32)), .val (.int a2_), .val (.int b2_), .val (.int (own_fits a1_ b1_))] [])
                  refine own_st (fun t_ k_ => XS.iconst X38.here hx rfl (hb hby d9_70) k_) ?_
                  show own_Go p e below _ T38 (mkF m 71 #[.val (.ref a), .val (.ref sB), .val (.int (2 : Int32)), .val (.int a2_), .val (.int b2_), .val (.int (own_fits a1_ b1_))] [(.int (0 : Int32))])
                  refine own_st (fun t_ k_ => XS.goto X38.here hx rfl (pc0 := 71) (pc' := 85) rfl (hb hby d9_71) (by decide) (by decide) k_) ?_
                  show own_Go p e below _ T38 (mkF m 85 #[.val (.ref a), .val (.ref sB), .val (.int (2 : Int32)), .val (.int a2_), .val (.int b2_), .val (.int (own_fits a1_ b1_))] [(.int (0 : Int32))])
                  exact J_f2_ (0 : Int32) (by rw [hf_, if_neg hl40, if_pos hl41])
                · refine own_st (fun t_ k_ => XS.icmpNo X38.here hx rfl (hb hby d9_63) rfl (flt hl41).2.2.1 k_) ?_
                  show own_Go p e below _ T38 (mkF m 66 #[.val (.ref a), .val (.ref sB), .val (.int (2 : Int32)), .val (.int a2_), .val (.int b2_), .val (.int (own_fits a1_ b1_))] [])
                  refine own_st (fun t_ k_ => XS.iconst X38.here hx rfl (hb hby d9_66) k_) ?_
                  show own_Go p e below _ T38 (mkF m 67 #[.val (.ref a), .val (.ref sB), .val (.int (2 : Int32)), .val (.int a2_), .val (.int b2_), .val (.int (own_fits a1_ b1_))] [(.int (1 : Int32))])
                  refine own_st (fun t_ k_ => XS.goto X38.here hx rfl (pc0 := 67) (pc' := 85) rfl (hb hby d9_67) (by decide) (by decide) k_) ?_
                  show own_Go p e below _ T38 (mkF m 85 #[.val (.ref a), .val (.ref sB), .val (.int (2 : Int32)), .val (.int a2_), .val (.int b2_), .val (.int (own_fits a1_ b1_))] [(.int (1 : Int32))])
                  exact J_f2_ (1 : Int32) (by rw [hf_, if_neg hl40, if_neg hl41])
      · show own_Go p e below _ T26 (mkF m 49 #[.val (.ref a), .val (.ref sB), .val (.int (1 : Int32)), .val (.int a1_), .val (.int b1_), .val (.int (own_fits a0_ b0_))] [(.int (own_cap a1_))])
        by_cases hcap : (own_cap a1_) = (0 : Int32)
        · refine own_st (fun t_ k_ => XS.ifYes X26.here hx rfl (pc0 := 49) (pc' := 74) rfl (hb hby d9_49) rfl ((if0 _ _).trans (teq hcap).1) (by decide) (by decide) k_) ?_
          show own_Go p e below _ T26 (mkF m 74 #[.val (.ref a), .val (.ref sB), .val (.int (1 : Int32)), .val (.int a1_), .val (.int b1_), .val (.int (own_fits a0_ b0_))] [])
          have hf_ := own_fc (b := b1_) hcap
          refine own_st (fun t_ k_ => XS.iload X26.here hx rfl (hb hby d9_74) rfl k_) ?_
          show own_Go p e below _ T26 (mkF m 76 #[.val (.ref a), .val (.ref sB), .val (.int (1 : Int32)), .val (.int a1_), .val (.int b1_), .val (.int (own_fits a0_ b0_))] [(.int b1_)])
          refine own_st (fun t_ k_ => XS.iloadN X26.here hx rfl (hb hby d9_76) rfl k_) ?_
          show own_Go p e below _ T26 (mkF m 77 #[.val (.ref a), .val (.ref sB), .val (.int (1 : Int32)), .val (.int a1_), .val (.int b1_), .val (.int (own_fits a0_ b0_))] [(.int a1_), (.int b1_)])
          by_cases hl27 : b1_ = a1_
          · refine own_st (fun t_ k_ => XS.icmpNo X26.here hx rfl (hb hby d9_77) rfl (teq hl27).2 k_) ?_
            show own_Go p e below _ T26 (mkF m 80 #[.val (.ref a), .val (.ref sB), .val (.int (1 : Int32)), .val (.int a1_), .val (.int b1_), .val (.int (own_fits a0_ b0_))] [])
            refine own_st (fun t_ k_ => XS.iconst X26.here hx rfl (hb hby d9_80) k_) ?_
            show own_Go p e below _ T26 (mkF m 81 #[.val (.ref a), .val (.ref sB), .val (.int (1 : Int32)), .val (.int a1_), .val (.int b1_), .val (.int (own_fits a0_ b0_))] [(.int (1 : Int32))])
            refine own_st (fun t_ k_ => XS.goto X26.here hx rfl (pc0 := 81) (pc' := 85) rfl (hb hby d9_81) (by decide) (by decide) k_) ?_
            show own_Go p e below _ T26 (mkF m 85 #[.val (.ref a), .val (.ref sB), .val (.int (1 : Int32)), .val (.int a1_), .val (.int b1_), .val (.int (own_fits a0_ b0_))] [(.int (1 : Int32))])
            exact J_f1_ (1 : Int32) (by rw [hf_, if_pos hl27])
          · refine own_st (fun t_ k_ => XS.icmpYes X26.here hx rfl (pc0 := 77) (pc' := 84) rfl (hb hby d9_77) rfl (feq hl27).2 (by decide) (by decide) k_) ?_
            show own_Go p e below _ T26 (mkF m 84 #[.val (.ref a), .val (.ref sB), .val (.int (1 : Int32)), .val (.int a1_), .val (.int b1_), .val (.int (own_fits a0_ b0_))] [])
            refine own_st (fun t_ k_ => XS.iconst X26.here hx rfl (hb hby d9_84) k_) ?_
            show own_Go p e below _ T26 (mkF m 85 #[.val (.ref a), .val (.ref sB), .val (.int (1 : Int32)), .val (.int a1_), .val (.int b1_), .val (.int (own_fits a0_ b0_))] [(.int (0 : Int32))])
            exact J_f1_ (0 : Int32) (by rw [hf_, if_neg hl27])
        · refine own_st (fun t_ k_ => XS.ifNo X26.here hx rfl (hb hby d9_49) rfl ((if0 _ _).trans (feq hcap).1) k_) ?_
          show own_Go p e below _ T26 (mkF m 52 #[.val (.ref a), .val (.ref sB), .val (.int (1 : Int32)), .val (.int a1_), .val (.int b1_), .val (.int (own_fits a0_ b0_))] [])
          have hf_ := own_fn (b := b1_) hcap
          refine own_st (fun t_ k_ => XS.iload X26.here hx rfl (hb hby d9_52) rfl k_) ?_
          show own_Go p e below _ T26 (mkF m 54 #[.val (.ref a), .val (.ref sB), .val (.int (1 : Int32)), .val (.int a1_), .val (.int b1_), .val (.int (own_fits a0_ b0_))] [(.int b1_)])
          refine own_st (fun t_ k_ => XS.bipush X26.here hx rfl (hb hby d9_54) k_) ?_
          show own_Go p e below _ T26 (mkF m 56 #[.val (.ref a), .val (.ref sB), .val (.int (1 : Int32)), .val (.int a1_), .val (.int b1_), .val (.int (own_fits a0_ b0_))] [(.int (48 : Int32)), (.int b1_)])
          by_cases hl28 : b1_ < (48 : Int32)
          · refine own_st (fun t_ k_ => XS.icmpYes X26.here hx rfl (pc0 := 56) (pc' := 70) rfl (hb hby d9_56) rfl (tlt hl28).1 (by decide) (by decide) k_) ?_
            show own_Go p e below _ T26 (mkF m 70 #[.val (.ref a), .val (.ref sB), .val (.int (1 : Int32)), .val (.int a1_), .val (.int b1_), .val (.int (own_fits a0_ b0_))] [])
            refine own_st (fun t_ k_ => XS.iconst X26.here hx rfl (hb hby d9_70) k_) ?_
            show own_Go p e below _ T26 (mkF m 71 #[.val (.ref a), .val (.ref sB), .val (.int (1 : Int32)), .val (.int a1_), .val (.int b1_), .val (.int (own_fits a0_ b0_))] [(.int (0 : Int32))])
            refine own_st (fun t_ k_ => XS.goto X26.here hx rfl (pc0 := 71) (pc' := 85) rfl (hb hby d9_71) (by decide) (by decide) k_) ?_
            show own_Go p e below _ T26 (mkF m 85 #[.val (.ref a), .val (.ref sB), .val (.int (1 : Int32)), .val (.int a1_), .val (.int b1_), .val (.int (own_fits a0_ b0_))] [(.int (0 : Int32))])
            exact J_f1_ (0 : Int32) (by rw [hf_, if_pos hl28])
          · refine own_st (fun t_ k_ => XS.icmpNo X26.here hx rfl (hb hby d9_56) rfl (flt hl28).1 k_) ?_
            show own_Go p e below _ T26 (mkF m 59 #[.val (.ref a), .val (.ref sB), .val (.int (1 : Int32)), .val (.int a1_), .val (.int b1_), .val (.int (own_fits a0_ b0_))] [])
            refine own_st (fun t_ k_ => XS.iload X26.here hx rfl (hb hby d9_59) rfl k_) ?_
            show own_Go p e below _ T26 (mkF m 61 #[.val (.ref a), .val (.ref sB), .val (.int (1 : Int32)), .val (.int a1_), .val (.int b1_), .val (.int (own_fits a0_ b0_))] [(.int b1_)])
            refine own_st (fun t_ k_ => XS.bipush X26.here hx rfl (hb hby d9_61) k_) ?_
            show own_Go p e below _ T26 (mkF m 63 #[.val (.ref a), .val (.ref sB), .val (.int (1 : Int32)), .val (.int a1_), .val (.int b1_), .val (.int (own_fits a0_ b0_))] [(.int (57 : Int32)), (.int b1_)])
            by_cases hl29 : (57 : Int32) < b1_
            · refine own_st (fun t_ k_ => XS.icmpYes X26.here hx rfl (pc0 := 63) (pc' := 70) rfl (hb hby d9_63) rfl (tlt hl29).2.2.1 (by decide) (by decide) k_) ?_
              show own_Go p e below _ T26 (mkF m 70 #[.val (.ref a), .val (.ref sB), .val (.int (1 : Int32)), .val (.int a1_), .val (.int b1_), .val (.int (own_fits a0_ b0_))] [])
              refine own_st (fun t_ k_ => XS.iconst X26.here hx rfl (hb hby d9_70) k_) ?_
              show own_Go p e below _ T26 (mkF m 71 #[.val (.ref a), .val (.ref sB), .val (.int (1 : Int32)), .val (.int a1_), .val (.int b1_), .val (.int (own_fits a0_ b0_))] [(.int (0 : Int32))])
              refine own_st (fun t_ k_ => XS.goto X26.here hx rfl (pc0 := 71) (pc' := 85) rfl (hb hby d9_71) (by decide) (by decide) k_) ?_
              show own_Go p e below _ T26 (mkF m 85 #[.val (.ref a), .val (.ref sB), .val (.int (1 : Int32)), .val (.int a1_), .val (.int b1_), .val (.int (own_fits a0_ b0_))] [(.int (0 : Int32))])
              exact J_f1_ (0 : Int32) (by rw [hf_, if_neg hl28, if_pos hl29])
            · refine own_st (fun t_ k_ => XS.icmpNo X26.here hx rfl (hb hby d9_63) rfl (flt hl29).2.2.1 k_) ?_
              show own_Go p e below _ T26 (mkF m 66 #[.val (.ref a), .val (.ref sB), .val (.int (1 : Int32)), .val (.int a1_), .val (.int b1_), .val (.int (own_fits a0_ b0_))] [])
              refine own_st (fun t_ k_ => XS.iconst X26.here hx rfl (hb hby d9_66) k_) ?_
              show own_Go p e below _ T26 (mkF m 67 #[.val (.ref a), .val (.ref sB), .val (.int (1 : Int32)), .val (.int a1_), .val (.int b1_), .val (.int (own_fits a0_ b0_))] [(.int (1 : Int32))])
              refine own_st (fun t_ k_ => XS.goto X26.here hx rfl (pc0 := 67) (pc' := 85) rfl (hb hby d9_67) (by decide) (by decide) k_) ?_
              show own_Go p e below _ T26 (mkF m 85 #[.val (.ref a), .val (.ref sB), .val (.int (1 : Int32)), .val (.int a1_), .val (.int b1_), .val (.int (own_fits a0_ b0_))] [(.int (1 : Int32))])
              exact J_f1_ (1 : Int32) (by rw [hf_, if_neg hl28, if_neg hl29])
  · show own_Go p e below _ T14 (mkF m 49 #[.val (.ref a), .val (.ref sB), .val (.int (0 : Int32)), .val (.int a0_), .val (.int b0_), .unset] [(.int (own_cap a0_))])
    by_cases hcap : (own_cap a0_) = (0 : Int32)
    · refine own_st (fun t_ k_ => XS.ifYes X14.here hx rfl (pc0 := 49) (pc' := 74) rfl (hb hby d9_49) rfl ((if0 _ _).trans (teq hcap).1) (by decide) (by decide) k_) ?_
      show own_Go p e below _ T14 (mkF m 74 #[.val (.ref a), .val (.ref sB), .val (.int (0 : Int32)), .val (.int a0_), .val (.int b0_), .unset] [])
      have hf_ := own_fc (b := b0_) hcap
      refine own_st (fun t_ k_ => XS.iload X14.here hx rfl (hb hby d9_74) rfl k_) ?_
      show own_Go p e below _ T14 (mkF m 76 #[.val (.ref a), .val (.ref sB), .val (.int (0 : Int32)), .val (.int a0_), .val (.int b0_), .unset] [(.int b0_)])
      refine own_st (fun t_ k_ => XS.iloadN X14.here hx rfl (hb hby d9_76) rfl k_) ?_
      show own_Go p e below _ T14 (mkF m 77 #[.val (.ref a), .val (.ref sB), .val (.int (0 : Int32)), .val (.int a0_), .val (.int b0_), .unset] [(.int a0_), (.int b0_)])
      by_cases hl15 : b0_ = a0_
      · refine own_st (fun t_ k_ => XS.icmpNo X14.here hx rfl (hb hby d9_77) rfl (teq hl15).2 k_) ?_
        show own_Go p e below _ T14 (mkF m 80 #[.val (.ref a), .val (.ref sB), .val (.int (0 : Int32)), .val (.int a0_), .val (.int b0_), .unset] [])
        refine own_st (fun t_ k_ => XS.iconst X14.here hx rfl (hb hby d9_80) k_) ?_
        show own_Go p e below _ T14 (mkF m 81 #[.val (.ref a), .val (.ref sB), .val (.int (0 : Int32)), .val (.int a0_), .val (.int b0_), .unset] [(.int (1 : Int32))])
        refine own_st (fun t_ k_ => XS.goto X14.here hx rfl (pc0 := 81) (pc' := 85) rfl (hb hby d9_81) (by decide) (by decide) k_) ?_
        show own_Go p e below _ T14 (mkF m 85 #[.val (.ref a), .val (.ref sB), .val (.int (0 : Int32)), .val (.int a0_), .val (.int b0_), .unset] [(.int (1 : Int32))])
        exact J_f0_ (1 : Int32) (by rw [hf_, if_pos hl15])
      · refine own_st (fun t_ k_ => XS.icmpYes X14.here hx rfl (pc0 := 77) (pc' := 84) rfl (hb hby d9_77) rfl (feq hl15).2 (by decide) (by decide) k_) ?_
        show own_Go p e below _ T14 (mkF m 84 #[.val (.ref a), .val (.ref sB), .val (.int (0 : Int32)), .val (.int a0_), .val (.int b0_), .unset] [])
        refine own_st (fun t_ k_ => XS.iconst X14.here hx rfl (hb hby d9_84) k_) ?_
        show own_Go p e below _ T14 (mkF m 85 #[.val (.ref a), .val (.ref sB), .val (.int (0 : Int32)), .val (.int a0_), .val (.int b0_), .unset] [(.int (0 : Int32))])
        exact J_f0_ (0 : Int32) (by rw [hf_, if_neg hl15])
    · refine own_st (fun t_ k_ => XS.ifNo X14.here hx rfl (hb hby d9_49) rfl ((if0 _ _).trans (feq hcap).1) k_) ?_
      show own_Go p e below _ T14 (mkF m 52 #[.val (.ref a), .val (.ref sB), .val (.int (0 : Int32)), .val (.int a0_), .val (.int b0_), .unset] [])
      have hf_ := own_fn (b := b0_) hcap
      refine own_st (fun t_ k_ => XS.iload X14.here hx rfl (hb hby d9_52) rfl k_) ?_
      show own_Go p e below _ T14 (mkF m 54 #[.val (.ref a), .val (.ref sB), .val (.int (0 : Int32)), .val (.int a0_), .val (.int b0_), .unset] [(.int b0_)])
      refine own_st (fun t_ k_ => XS.bipush X14.here hx rfl (hb hby d9_54) k_) ?_
      show own_Go p e below _ T14 (mkF m 56 #[.val (.ref a), .val (.ref sB), .val (.int (0 : Int32)), .val (.int a0_), .val (.int b0_), .unset] [(.int (48 : Int32)), (.int b0_)])
      by_cases hl16 : b0_ < (48 : Int32)
      · refine own_st (fun t_ k_ => XS.icmpYes X14.here hx rfl (pc0 := 56) (pc' := 70) rfl (hb hby d9_56) rfl (tlt hl16).1 (by decide) (by decide) k_) ?_
        show own_Go p e below _ T14 (mkF m 70 #[.val (.ref a), .val (.ref sB), .val (.int (0 : Int32)), .val (.int a0_), .val (.int b0_), .unset] [])
        refine own_st (fun t_ k_ => XS.iconst X14.here hx rfl (hb hby d9_70) k_) ?_
        show own_Go p e below _ T14 (mkF m 71 #[.val (.ref a), .val (.ref sB), .val (.int (0 : Int32)), .val (.int a0_), .val (.int b0_), .unset] [(.int (0 : Int32))])
        refine own_st (fun t_ k_ => XS.goto X14.here hx rfl (pc0 := 71) (pc' := 85) rfl (hb hby d9_71) (by decide) (by decide) k_) ?_
        show own_Go p e below _ T14 (mkF m 85 #[.val (.ref a), .val (.ref sB), .val (.int (0 : Int32)), .val (.int a0_), .val (.int b0_), .unset] [(.int (0 : Int32))])
        exact J_f0_ (0 : Int32) (by rw [hf_, if_pos hl16])
      · refine own_st (fun t_ k_ => XS.icmpNo X14.here hx rfl (hb hby d9_56) rfl (flt hl16).1 k_) ?_
        show own_Go p e below _ T14 (mkF m 59 #[.val (.ref a), .val (.ref sB), .val (.int (0 : Int32)), .val (.int a0_), .val (.int b0_), .unset] [])
        refine own_st (fun t_ k_ => XS.iload X14.here hx rfl (hb hby d9_59) rfl k_) ?_
        show own_Go p e below _ T14 (mkF m 61 #[.val (.ref a), .val (.ref sB), .val (.int (0 : Int32)), .val (.int a0_), .val (.int b0_), .unset] [(.int b0_)])
        refine own_st (fun t_ k_ => XS.bipush X14.here hx rfl (hb hby d9_61) k_) ?_
        show own_Go p e below _ T14 (mkF m 63 #[.val (.ref a), .val (.ref sB), .val (.int (0 : Int32)), .val (.int a0_), .val (.int b0_), .unset] [(.int (57 : Int32)), (.int b0_)])
        by_cases hl17 : (57 : Int32) < b0_
        · refine own_st (fun t_ k_ => XS.icmpYes X14.here hx rfl (pc0 := 63) (pc' := 70) rfl (hb hby d9_63) rfl (tlt hl17).2.2.1 (by decide) (by decide) k_) ?_
          show own_Go p e below _ T14 (mkF m 70 #[.val (.ref a), .val (.ref sB), .val (.int (0 : Int32)), .val (.int a0_), .val (.int b0_), .unset] [])
          refine own_st (fun t_ k_ => XS.iconst X14.here hx rfl (hb hby d9_70) k_) ?_
          show own_Go p e below _ T14 (mkF m 71 #[.val (.ref a), .val (.ref sB), .val (.int (0 : Int32)), .val (.int a0_), .val (.int b0_), .unset] [(.int (0 : Int32))])
          refine own_st (fun t_ k_ => XS.goto X14.here hx rfl (pc0 := 71) (pc' := 85) rfl (hb hby d9_71) (by decide) (by decide) k_) ?_
          show own_Go p e below _ T14 (mkF m 85 #[.val (.ref a), .val (.ref sB), .val (.int (0 : Int32)), .val (.int a0_), .val (.int b0_), .unset] [(.int (0 : Int32))])
          exact J_f0_ (0 : Int32) (by rw [hf_, if_neg hl16, if_pos hl17])
        · refine own_st (fun t_ k_ => XS.icmpNo X14.here hx rfl (hb hby d9_63) rfl (flt hl17).2.2.1 k_) ?_
          show own_Go p e below _ T14 (mkF m 66 #[.val (.ref a), .val (.ref sB), .val (.int (0 : Int32)), .val (.int a0_), .val (.int b0_), .unset] [])
          refine own_st (fun t_ k_ => XS.iconst X14.here hx rfl (hb hby d9_66) k_) ?_
          show own_Go p e below _ T14 (mkF m 67 #[.val (.ref a), .val (.ref sB), .val (.int (0 : Int32)), .val (.int a0_), .val (.int b0_), .unset] [(.int (1 : Int32))])
          refine own_st (fun t_ k_ => XS.goto X14.here hx rfl (pc0 := 67) (pc' := 85) rfl (hb hby d9_67) (by decide) (by decide) k_) ?_
          show own_Go p e below _ T14 (mkF m 85 #[.val (.ref a), .val (.ref sB), .val (.int (0 : Int32)), .val (.int a0_), .val (.int b0_), .unset] [(.int (1 : Int32))])
          exact J_f0_ (1 : Int32) (by rw [hf_, if_neg hl16, if_neg hl17])
def Q0 (n0 : Nat) (v : Option Value) (h : Heap) (L : List Loc) : Prop := v = some (.int 1) ∧ Fr n0 L
theorem own_and3 (x : Int32) : own_N4 (x &&& (3 : Int32)) := by
  have h := c_and x (3 : Int32) (by decide)
  have e : (3 : Int32).toInt = 3 := rfl
  have h3 : (x &&& (3 : Int32)).toInt = 0 ∨ (x &&& (3 : Int32)).toInt = 1 ∨ (x &&& (3 : Int32)).toInt = 2 ∨ (x &&& (3 : Int32)).toInt = 3 := by omega
  unfold own_N4
  simp only [← Int32.toInt_inj]
  exact h3
theorem own_a255 (x : Int32) : own_L (x &&& (255 : Int32)) := c_and x (255 : Int32) (by decide)
theorem own_strl (n : Int32) (x0 x1 x2 : Int32) : (own_str n [x0, x1, x2]).length ≤ 4000 := by
  unfold own_str
  rw [List.length_take]
  exact Nat.le_trans (Nat.min_le_right _ _) (by decide : (3 : Nat) ≤ 4000)
theorem own_strlen (n : Int32) (x0 x1 x2 : Int32) (h : own_N4 n) : Int32.ofNat (own_str n [x0, x1, x2]).length = n := by
  rcases h with rfl | rfl | rfl | rfl <;> rfl
theorem pd_5 : parseMethodDescriptor "(II)C" = some ⟨[.int, .int], some .char⟩ := by decide +kernel
theorem pd_6 : parseMethodDescriptor "(IIC)C" = some ⟨[.int, .int, .char], some .char⟩ := by decide +kernel
theorem pd_7 : parseMethodDescriptor "(ICCC)Ljava/lang/String;" = some ⟨[.int, .char, .char, .char], some (.object "java/lang/String")⟩ := by decide +kernel
theorem pd_8 : parseMethodDescriptor "(Ljava/lang/String;)V" = some ⟨[(.object "java/lang/String")], none⟩ := by decide +kernel
theorem pd_9 : parseMethodDescriptor "(Ljava/lang/String;)Z" = some ⟨[(.object "java/lang/String")], some .boolean⟩ := by decide +kernel
theorem pd_10 : parseMethodDescriptor "(CC)Z" = some ⟨[.char, .char], some .boolean⟩ := by decide +kernel
theorem ef_rm0 (m : MethodId) (x0 : Int32) (x1 : Int32) (x2 : Int32) (x3 : Int32) : entryFrame m #[(.int x0), (.int x1), (.int x2), (.int x3)] maxLocals = mkF m 0 #[.val (.int x0), .val (.int x1), .val (.int x2), .val (.int x3), .unset, .unset, .unset, .unset, .unset, .unset, .unset, .unset, .unset, .unset, .unset, .unset] [] := by first | (simp [entryFrame, mkF, argsToLocals, Value.category, maxLocals]; done) | rfl
set_option maxRecDepth 65536 in
set_option maxHeartbeats 40000000 in
theorem rm0 (l : Launch) (Z : State) (a0 : Array Value) (hw : ∀ d ∈ tables_1, d.before a0 Z = true) (ws : List Jvm.Cond) (le ff tt mo G : Int32) (fm : Value) (h0 : Heap) (n0 : Nat) (Z0 : n0 ≤ h0.size) (SC : Sta Z Z.heap "java/lang/String" "COMPACT_STRINGS" "Z" (.int G)) (hCS : ¬ G = 0) (O0 : Old Z n0 h0) (SF : Sta Z Z.heap "jdk/internal/util/Preconditions" "SIOOBE_FORMATTER" "Ljava/util/function/BiFunction;" fm) (rG : fm.isRef = true) :
    MetFree l x (head1 (Jvm.Cond.code x code maxLocals ret :: ws) room_1) (fun a_ U_ => a_ = #[(.int le), (.int ff), (.int tt), (.int mo)] ∧ Z.Warmed39 U_.vm ∧ U_.heap = h0 ∧ CHv Z consts_1 U_.vm h0) (fun _ _ _ _ _ => True) (fun _ U_ o_ U'_ => ∃ v_ L_, o_ = .returned v_ ∧ Q0 n0 v_ U'_.heap L_ ∧ CHr Z consts_1 U_.vm U_.heap U'_.vm U'_.heap ∧ ReturnedEndW U_ o_ U'_ L_ 24 1152) := by
  refine MetFree.of_bodySF (plainFor_of_name pn_1) hisR ?_
  intro p e s m args below meth c s₁ Bd hml0 hP hK
  obtain ⟨rfl, hZ, hh, hC0⟩ := hP
  have hx := Bd.exec
  have hby := Bd.bytes
  have hml : c.maxLocals = 16 := hml0
  have hown : s.vm.findClass "com/example/hebelwerk/hebelwerk/io/FixedFormMatchesPinLaw" = some m.cls := findClass_of_methodNamed Bd.named
  have hnm := (name_of_methodNamed Bd.named Bd.method).1
  have hlk := BodyLoose.notSynchronized Bd
  have X0 : Stand p l e room_1 (s.setVm s.vm) m #[(.int le), (.int ff), (.int tt), (.int mo)] below meth c s₁ [] 0 0 := Stand.of_body Bd
  have e0 : s₁.heap = h0 := by rw [← hh, Bd.state]; rfl
  have N0 := Fr.nil n0
  have hEL := own_EL hw
  have B0 : own_Bk Z consts_1 s h0 s.vm h0 := own_Bk.start hC0
  refine own_entry (P := own_EndS Z consts_1 s (Q0 n0) 24 1152) (ef_rm0 m le ff tt mo) ?_
  show own_Go p e below _ s₁ (mkF m 0 #[.val (.int le), .val (.int ff), .val (.int tt), .val (.int mo), .unset, .unset, .unset, .unset, .unset, .unset, .unset, .unset, .unset, .unset, .unset, .unset] [])
  refine own_st (fun t_ k_ => XS.iloadN X0.here hx rfl (hb hby at_0) rfl k_) ?_
  show own_Go p e below _ s₁ (mkF m 1 #[.val (.int le), .val (.int ff), .val (.int tt), .val (.int mo), .unset, .unset, .unset, .unset, .unset, .unset, .unset, .unset, .unset, .unset, .unset, .unset] [(.int le)])
  refine own_st (fun t_ k_ => XS.iconst X0.here hx rfl (hb hby at_1) k_) ?_
  show own_Go p e below _ s₁ (mkF m 2 #[.val (.int le), .val (.int ff), .val (.int tt), .val (.int mo), .unset, .unset, .unset, .unset, .unset, .unset, .unset, .unset, .unset, .unset, .unset, .unset] [(.int (3 : Int32)), (.int le)])
  refine own_st (fun t_ k_ => XS.iand X0.here hx rfl (hb hby at_2) rfl k_) ?_
  show own_Go p e below _ s₁ (mkF m 3 #[.val (.int le), .val (.int ff), .val (.int tt), .val (.int mo), .unset, .unset, .unset, .unset, .unset, .unset, .unset, .unset, .unset, .unset, .unset, .unset] [(.int (le &&& (3 : Int32)))])
  have d_fl : own_N4 (le &&& (3 : Int32)) := own_and3 _
  generalize h_fl : (le &&& (3 : Int32)) = fl at d_fl ⊢
  show own_Go p e below _ s₁ (mkF m 3 #[.val (.int le), .val (.int ff), .val (.int tt), .val (.int mo), .unset, .unset, .unset, .unset, .unset, .unset, .unset, .unset, .unset, .unset, .unset, .unset] [(.int fl)])
  refine own_st (fun t_ k_ => XS.istore X0.here hx rfl (hb hby at_3) rfl (l' := #[.val (.int le), .val (.int ff), .val (.int tt), .val (.int mo), .val (.int fl), .unset, .unset, .unset, .unset, .unset, .unset, .unset, .unset, .unset, .unset, .unset]) rfl k_) ?_
  show own_Go p e below _ s₁ (mkF m 5 #[.val (.int le), .val (.int ff), .val (.int tt), .val (.int mo), .val (.int fl), .unset, .unset, .unset, .unset, .unset, .unset, .unset, .unset, .unset, .unset, .unset] [])
  refine own_st (fun t_ k_ => XS.iloadN X0.here hx rfl (hb hby at_5) rfl k_) ?_
  show own_Go p e below _ s₁ (mkF m 6 #[.val (.int le), .val (.int ff), .val (.int tt), .val (.int mo), .val (.int fl), .unset, .unset, .unset, .unset, .unset, .unset, .unset, .unset, .unset, .unset, .unset] [(.int le)])
  refine own_st (fun t_ k_ => XS.iconst X0.here hx rfl (hb hby at_6) k_) ?_
  show own_Go p e below _ s₁ (mkF m 7 #[.val (.int le), .val (.int ff), .val (.int tt), .val (.int mo), .val (.int fl), .unset, .unset, .unset, .unset, .unset, .unset, .unset, .unset, .unset, .unset, .unset] [(.int (4 : Int32)), (.int le)])
  refine own_st (fun t_ k_ => XS.iushr X0.here hx rfl (hb hby at_7) rfl k_) ?_
  show own_Go p e below _ s₁ (mkF m 8 #[.val (.int le), .val (.int ff), .val (.int tt), .val (.int mo), .val (.int fl), .unset, .unset, .unset, .unset, .unset, .unset, .unset, .unset, .unset, .unset, .unset] [(.int ((le.toUInt32 >>> ((4 : Int32) &&& 31).toUInt32).toInt32))])
  refine own_st (fun t_ k_ => XS.iconst X0.here hx rfl (hb hby at_8) k_) ?_
  show own_Go p e below _ s₁ (mkF m 9 #[.val (.int le), .val (.int ff), .val (.int tt), .val (.int mo), .val (.int fl), .unset, .unset, .unset, .unset, .unset, .unset, .unset, .unset, .unset, .unset, .unset] [(.int (1 : Int32)), (.int ((le.toUInt32 >>> ((4 : Int32) &&& 31).toUInt32).toInt32))])
  refine own_st (fun t_ k_ => XS.iand X0.here hx rfl (hb hby at_9) rfl k_) ?_
  show own_Go p e below _ s₁ (mkF m 10 #[.val (.int le), .val (.int ff), .val (.int tt), .val (.int mo), .val (.int fl), .unset, .unset, .unset, .unset, .unset, .unset, .unset, .unset, .unset, .unset, .unset] [(.int (((le.toUInt32 >>> ((4 : Int32) &&& 31).toUInt32).toInt32) &&& (1 : Int32)))])
  refine own_join (α := Int32) (F := fun tl => own_N4 tl) (T' := s₁) (g' := fun tl => (mkF m 23 #[.val (.int le), .val (.int ff), .val (.int tt), .val (.int mo), .val (.int fl), .unset, .unset, .unset, .unset, .unset, .unset, .unset, .unset, .unset, .unset, .unset] [(.int tl)])) (fun tl h_tl => ?_) (fun J_tl => ?_)
  · show own_Go p e below _ s₁ (mkF m 23 #[.val (.int le), .val (.int ff), .val (.int tt), .val (.int mo), .val (.int fl), .unset, .unset, .unset, .unset, .unset, .unset, .unset, .unset, .unset, .unset, .unset] [(.int tl)])
    have d_tl := h_tl
    refine own_st (fun t_ k_ => XS.istore X0.here hx rfl (hb hby at_23) rfl (l' := #[.val (.int le), .val (.int ff), .val (.int tt), .val (.int mo), .val (.int fl), .val (.int tl), .unset, .unset, .unset, .unset, .unset, .unset, .unset, .unset, .unset, .unset]) rfl k_) ?_
    show own_Go p e below _ s₁ (mkF m 25 #[.val (.int le), .val (.int ff), .val (.int tt), .val (.int mo), .val (.int fl), .val (.int tl), .unset, .unset, .unset, .unset, .unset, .unset, .unset, .unset, .unset, .unset] [])
    refine own_st (fun t_ k_ => XS.iloadN X0.here hx rfl (hb hby at_25) rfl k_) ?_
    show own_Go p e below _ s₁ (mkF m 26 #[.val (.int le), .val (.int ff), .val (.int tt), .val (.int mo), .val (.int fl), .val (.int tl), .unset, .unset, .unset, .unset, .unset, .unset, .unset, .unset, .unset, .unset] [(.int ff)])
    refine own_st (fun t_ k_ => XS.sipush X0.here hx rfl (hb hby at_26) k_) ?_
    show own_Go p e below _ s₁ (mkF m 29 #[.val (.int le), .val (.int ff), .val (.int tt), .val (.int mo), .val (.int fl), .val (.int tl), .unset, .unset, .unset, .unset, .unset, .unset, .unset, .unset, .unset, .unset] [(.int (255 : Int32)), (.int ff)])
    refine own_st (fun t_ k_ => XS.iand X0.here hx rfl (hb hby at_29) rfl k_) ?_
    show own_Go p e below _ s₁ (mkF m 30 #[.val (.int le), .val (.int ff), .val (.int tt), .val (.int mo), .val (.int fl), .val (.int tl), .unset, .unset, .unset, .unset, .unset, .unset, .unset, .unset, .unset, .unset] [(.int (ff &&& (255 : Int32)))])
    refine own_st (fun t_ k_ => XS.iloadN X0.here hx rfl (hb hby at_30) rfl k_) ?_
    show own_Go p e below _ s₁ (mkF m 31 #[.val (.int le), .val (.int ff), .val (.int tt), .val (.int mo), .val (.int fl), .val (.int tl), .unset, .unset, .unset, .unset, .unset, .unset, .unset, .unset, .unset, .unset] [(.int mo), (.int (ff &&& (255 : Int32)))])
    refine own_st (fun t_ k_ => XS.iconst X0.here hx rfl (hb hby at_31) k_) ?_
    show own_Go p e below _ s₁ (mkF m 32 #[.val (.int le), .val (.int ff), .val (.int tt), .val (.int mo), .val (.int fl), .val (.int tl), .unset, .unset, .unset, .unset, .unset, .unset, .unset, .unset, .unset, .unset] [(.int (1 : Int32)), (.int mo), (.int (ff &&& (255 : Int32)))])
    refine own_st (fun t_ k_ => XS.iand X0.here hx rfl (hb hby at_32) rfl k_) ?_
    show own_Go p e below _ s₁ (mkF m 33 #[.val (.int le), .val (.int ff), .val (.int tt), .val (.int mo), .val (.int fl), .val (.int tl), .unset, .unset, .unset, .unset, .unset, .unset, .unset, .unset, .unset, .unset] [(.int (mo &&& (1 : Int32))), (.int (ff &&& (255 : Int32)))])
    refine own_callS X0 hx (y := (⟨"com/example/hebelwerk/hebelwerk/io/FixedFormMatchesPinLaw", "formChar", "(II)C"⟩ : MethodName)) hown (mvT hZ (hw _ (List.mem_of_getElem? (i := 0) rfl))) (mvT hZ (hw _ (List.mem_of_getElem? (i := 1) rfl))) (mvT hZ (hw _ (List.mem_of_getElem? (i := 2) rfl))) (mvT hZ (hw _ (List.mem_of_getElem? (i := 3) rfl))) (by decide) (backOf (W := 0) (rmFC l Z a0 hw [] (ff &&& (255 : Int32)) (mo &&& (1 : Int32)) h0 n0 (Nat.le_trans Z0 (Keep.refl h0 []).1) (own_a255 _)) hZ (hw _ (List.mem_of_getElem? (i := 3) rfl)) (hw _ (List.mem_of_getElem? (i := 2) rfl)) (by decide) (by decide)) (g := (mkF m 33 #[.val (.int le), .val (.int ff), .val (.int tt), .val (.int mo), .val (.int fl), .val (.int tl), .unset, .unset, .unset, .unset, .unset, .unset, .unset, .unset, .unset, .unset] [(.int (mo &&& (1 : Int32))), (.int (ff &&& (255 : Int32)))])) rfl (by rw [hml]; rfl) (argsL := [(.int (ff &&& (255 : Int32))), (.int (mo &&& (1 : Int32)))]) (rest := []) (lenOf pd_5 rfl) rfl (by show 2 * 0 + _ ≤ _; exact Nat.le_of_eq rfl) (hb hby at_33) rfl e0 (by decide) (by decide) ?_
    rintro v2 T2 L2 X2 ⟨r2, rfl, Nq2, hh2, hl_r2⟩
    have N2 := Fr.app N0 Nq2
    show own_Go p e below _ T2 (mkF m 36 #[.val (.int le), .val (.int ff), .val (.int tt), .val (.int mo), .val (.int fl), .val (.int tl), .unset, .unset, .unset, .unset, .unset, .unset, .unset, .unset, .unset, .unset] [(.int r2)])
    refine own_st (fun t_ k_ => XS.istore X2.here hx rfl (hb hby at_36) rfl (l' := #[.val (.int le), .val (.int ff), .val (.int tt), .val (.int mo), .val (.int fl), .val (.int tl), .val (.int r2), .unset, .unset, .unset, .unset, .unset, .unset, .unset, .unset, .unset]) rfl k_) ?_
    show own_Go p e below _ T2 (mkF m 38 #[.val (.int le), .val (.int ff), .val (.int tt), .val (.int mo), .val (.int fl), .val (.int tl), .val (.int r2), .unset, .unset, .unset, .unset, .unset, .unset, .unset, .unset, .unset] [])
    refine own_st (fun t_ k_ => XS.iloadN X2.here hx rfl (hb hby at_38) rfl k_) ?_
    show own_Go p e below _ T2 (mkF m 39 #[.val (.int le), .val (.int ff), .val (.int tt), .val (.int mo), .val (.int fl), .val (.int tl), .val (.int r2), .unset, .unset, .unset, .unset, .unset, .unset, .unset, .unset, .unset] [(.int ff)])
    refine own_st (fun t_ k_ => XS.bipush X2.here hx rfl (hb hby at_39) k_) ?_
    show own_Go p e below _ T2 (mkF m 41 #[.val (.int le), .val (.int ff), .val (.int tt), .val (.int mo), .val (.int fl), .val (.int tl), .val (.int r2), .unset, .unset, .unset, .unset, .unset, .unset, .unset, .unset, .unset] [(.int (8 : Int32)), (.int ff)])
    refine own_st (fun t_ k_ => XS.iushr X2.here hx rfl (hb hby at_41) rfl k_) ?_
    show own_Go p e below _ T2 (mkF m 42 #[.val (.int le), .val (.int ff), .val (.int tt), .val (.int mo), .val (.int fl), .val (.int tl), .val (.int r2), .unset, .unset, .unset, .unset, .unset, .unset, .unset, .unset, .unset] [(.int ((ff.toUInt32 >>> ((8 : Int32) &&& 31).toUInt32).toInt32))])
    refine own_st (fun t_ k_ => XS.sipush X2.here hx rfl (hb hby at_42) k_) ?_
    show own_Go p e below _ T2 (mkF m 45 #[.val (.int le), .val (.int ff), .val (.int tt), .val (.int mo), .val (.int fl), .val (.int tl), .val (.int r2), .unset, .unset, .unset, .unset, .unset, .unset, .unset, .unset, .unset] [(.int (255 : Int32)), (.int ((ff.toUInt32 >>> ((8 : Int32) &&& 31).toUInt32).toInt32))])
    refine own_st (fun t_ k_ => XS.iand X2.here hx rfl (hb hby at_45) rfl k_) ?_
    show own_Go p e below _ T2 (mkF m 46 #[.val (.int le), .val (.int ff), .val (.int tt), .val (.int mo), .val (.int fl), .val (.int tl), .val (.int r2), .unset, .unset, .unset, .unset, .unset, .unset, .unset, .unset, .unset] [(.int (((ff.toUInt32 >>> ((8 : Int32) &&& 31).toUInt32).toInt32) &&& (255 : Int32)))])
    refine own_st (fun t_ k_ => XS.iloadN X2.here hx rfl (hb hby at_46) rfl k_) ?_
    show own_Go p e below _ T2 (mkF m 47 #[.val (.int le), .val (.int ff), .val (.int tt), .val (.int mo), .val (.int fl), .val (.int tl), .val (.int r2), .unset, .unset, .unset, .unset, .unset, .unset, .unset, .unset, .unset] [(.int mo), (.int (((ff.toUInt32 >>> ((8 : Int32) &&& 31).toUInt32).toInt32) &&& (255 : Int32)))])
    refine own_st (fun t_ k_ => XS.iconst X2.here hx rfl (hb hby at_47) k_) ?_
    show own_Go p e below _ T2 (mkF m 48 #[.val (.int le), .val (.int ff), .val (.int tt), .val (.int mo), .val (.int fl), .val (.int tl), .val (.int r2), .unset, .unset, .unset, .unset, .unset, .unset, .unset, .unset, .unset] [(.int (1 : Int32)), (.int mo), (.int (((ff.toUInt32 >>> ((8 : Int32) &&& 31).toUInt32).toInt32) &&& (255 : Int32)))])
    refine own_st (fun t_ k_ => XS.iushr X2.here hx rfl (hb hby at_48) rfl k_) ?_
    show own_Go p e below _ T2 (mkF m 49 #[.val (.int le), .val (.int ff), .val (.int tt), .val (.int mo), .val (.int fl), .val (.int tl), .val (.int r2), .unset, .unset, .unset, .unset, .unset, .unset, .unset, .unset, .unset] [(.int ((mo.toUInt32 >>> ((1 : Int32) &&& 31).toUInt32).toInt32)), (.int (((ff.toUInt32 >>> ((8 : Int32) &&& 31).toUInt32).toInt32) &&& (255 : Int32)))])
    refine own_st (fun t_ k_ => XS.iconst X2.here hx rfl (hb hby at_49) k_) ?_
    show own_Go p e below _ T2 (mkF m 50 #[.val (.int le), .val (.int ff), .val (.int tt), .val (.int mo), .val (.int fl), .val (.int tl), .val (.int r2), .unset, .unset, .unset, .unset, .unset, .unset, .unset, .unset, .unset] [(.int (1 : Int32)), (.int ((mo.toUInt32 >>> ((1 : Int32) &&& 31).toUInt32).toInt32)), (.int (((ff.toUInt32 >>> ((8 : Int32) &&& 31).toUInt32).toInt32) &&& (255 : Int32)))])
    refine own_st (fun t_ k_ => XS.iand X2.here hx rfl (hb hby at_50) rfl k_) ?_
    show own_Go p e below _ T2 (mkF m 51 #[.val (.int le), .val (.int ff), .val (.int tt), .val (.int mo), .val (.int fl), .val (.int tl), .val (.int r2), .unset, .unset, .unset, .unset, .unset, .unset, .unset, .unset, .unset] [(.int (((mo.toUInt32 >>> ((1 : Int32) &&& 31).toUInt32).toInt32) &&& (1 : Int32))), (.int (((ff.toUInt32 >>> ((8 : Int32) &&& 31).toUInt32).toInt32) &&& (255 : Int32)))])
    refine own_callS X2 hx (y := (⟨"com/example/hebelwerk/hebelwerk/io/FixedFormMatchesPinLaw", "formChar", "(II)C"⟩ : MethodName)) hown (mvT hZ (hw _ (List.mem_of_getElem? (i := 0) rfl))) (mvT hZ (hw _ (List.mem_of_getElem? (i := 1) rfl))) (mvT hZ (hw _ (List.mem_of_getElem? (i := 2) rfl))) (mvT hZ (hw _ (List.mem_of_getElem? (i := 3) rfl))) (by decide) (backOf (W := 0) (rmFC l Z a0 hw [] (((ff.toUInt32 >>> ((8 : Int32) &&& 31).toUInt32).toInt32) &&& (255 : Int32)) (((mo.toUInt32 >>> ((1 : Int32) &&& 31).toUInt32).toInt32) &&& (1 : Int32)) h0 n0 (Nat.le_trans Z0 (Keep.refl h0 []).1) (own_a255 _)) hZ (hw _ (List.mem_of_getElem? (i := 3) rfl)) (hw _ (List.mem_of_getElem? (i := 2) rfl)) (by decide) (by decide)) (g := (mkF m 51 #[.val (.int le), .val (.int ff), .val (.int tt), .val (.int mo), .val (.int fl), .val (.int tl), .val (.int r2), .unset, .unset, .unset, .unset, .unset, .unset, .unset, .unset, .unset] [(.int (((mo.toUInt32 >>> ((1 : Int32) &&& 31).toUInt32).toInt32) &&& (1 : Int32))), (.int (((ff.toUInt32 >>> ((8 : Int32) &&& 31).toUInt32).toInt32) &&& (255 : Int32)))])) rfl (by rw [hml]; rfl) (argsL := [(.int (((ff.toUInt32 >>> ((8 : Int32) &&& 31).toUInt32).toInt32) &&& (255 : Int32))), (.int (((mo.toUInt32 >>> ((1 : Int32) &&& 31).toUInt32).toInt32) &&& (1 : Int32)))]) (rest := []) (lenOf pd_5 rfl) rfl (by show 2 * 0 + _ ≤ _; exact Nat.le_of_eq rfl) (hb hby at_51) rfl hh2 (by decide) (by decide) ?_
    rintro v3 T3 L3 X3 ⟨r3, rfl, Nq3, hh3, hl_r3⟩
    have N3 := Fr.app N2 Nq3
    show own_Go p e below _ T3 (mkF m 54 #[.val (.int le), .val (.int ff), .val (.int tt), .val (.int mo), .val (.int fl), .val (.int tl), .val (.int r2), .unset, .unset, .unset, .unset, .unset, .unset, .unset, .unset, .unset] [(.int r3)])
    refine own_st (fun t_ k_ => XS.istore X3.here hx rfl (hb hby at_54) rfl (l' := #[.val (.int le), .val (.int ff), .val (.int tt), .val (.int mo), .val (.int fl), .val (.int tl), .val (.int r2), .val (.int r3), .unset, .unset, .unset, .unset, .unset, .unset, .unset, .unset]) rfl k_) ?_
    show own_Go p e below _ T3 (mkF m 56 #[.val (.int le), .val (.int ff), .val (.int tt), .val (.int mo), .val (.int fl), .val (.int tl), .val (.int r2), .val (.int r3), .unset, .unset, .unset, .unset, .unset, .unset, .unset, .unset] [])
    refine own_st (fun t_ k_ => XS.iloadN X3.here hx rfl (hb hby at_56) rfl k_) ?_
    show own_Go p e below _ T3 (mkF m 57 #[.val (.int le), .val (.int ff), .val (.int tt), .val (.int mo), .val (.int fl), .val (.int tl), .val (.int r2), .val (.int r3), .unset, .unset, .unset, .unset, .unset, .unset, .unset, .unset] [(.int ff)])
    refine own_st (fun t_ k_ => XS.bipush X3.here hx rfl (hb hby at_57) k_) ?_
    show own_Go p e below _ T3 (mkF m 59 #[.val (.int le), .val (.int ff), .val (.int tt), .val (.int mo), .val (.int fl), .val (.int tl), .val (.int r2), .val (.int r3), .unset, .unset, .unset, .unset, .unset, .unset, .unset, .unset] [(.int (16 : Int32)), (.int ff)])
    refine own_st (fun t_ k_ => XS.iushr X3.here hx rfl (hb hby at_59) rfl k_) ?_
    show own_Go p e below _ T3 (mkF m 60 #[.val (.int le), .val (.int ff), .val (.int tt), .val (.int mo), .val (.int fl), .val (.int tl), .val (.int r2), .val (.int r3), .unset, .unset, .unset, .unset, .unset, .unset, .unset, .unset] [(.int ((ff.toUInt32 >>> ((16 : Int32) &&& 31).toUInt32).toInt32))])
    refine own_st (fun t_ k_ => XS.sipush X3.here hx rfl (hb hby at_60) k_) ?_
    show own_Go p e below _ T3 (mkF m 63 #[.val (.int le), .val (.int ff), .val (.int tt), .val (.int mo), .val (.int fl), .val (.int tl), .val (.int r2), .val (.int r3), .unset, .unset, .unset, .unset, .unset, .unset, .unset, .unset] [(.int (255 : Int32)), (.int ((ff.toUInt32 >>> ((16 : Int32) &&& 31).toUInt32).toInt32))])
    refine own_st (fun t_ k_ => XS.iand X3.here hx rfl (hb hby at_63) rfl k_) ?_
    show own_Go p e below _ T3 (mkF m 64 #[.val (.int le), .val (.int ff), .val (.int tt), .val (.int mo), .val (.int fl), .val (.int tl), .val (.int r2), .val (.int r3), .unset, .unset, .unset, .unset, .unset, .unset, .unset, .unset] [(.int (((ff.toUInt32 >>> ((16 : Int32) &&& 31).toUInt32).toInt32) &&& (255 : Int32)))])
    refine own_st (fun t_ k_ => XS.iloadN X3.here hx rfl (hb hby at_64) rfl k_) ?_
    show own_Go p e below _ T3 (mkF m 65 #[.val (.int le), .val (.int ff), .val (.int tt), .val (.int mo), .val (.int fl), .val (.int tl), .val (.int r2), .val (.int r3), .unset, .unset, .unset, .unset, .unset, .unset, .unset, .unset] [(.int mo), (.int (((ff.toUInt32 >>> ((16 : Int32) &&& 31).toUInt32).toInt32) &&& (255 : Int32)))])
    refine own_st (fun t_ k_ => XS.iconst X3.here hx rfl (hb hby at_65) k_) ?_
    show own_Go p e below _ T3 (mkF m 66 #[.val (.int le), .val (.int ff), .val (.int tt), .val (.int mo), .val (.int fl), .val (.int tl), .val (.int r2), .val (.int r3), .unset, .unset, .unset, .unset, .unset, .unset, .unset, .unset] [(.int (2 : Int32)), (.int mo), (.int (((ff.toUInt32 >>> ((16 : Int32) &&& 31).toUInt32).toInt32) &&& (255 : Int32)))])
    refine own_st (fun t_ k_ => XS.iushr X3.here hx rfl (hb hby at_66) rfl k_) ?_
    show own_Go p e below _ T3 (mkF m 67 #[.val (.int le), .val (.int ff), .val (.int tt), .val (.int mo), .val (.int fl), .val (.int tl), .val (.int r2), .val (.int r3), .unset, .unset, .unset, .unset, .unset, .unset, .unset, .unset] [(.int ((mo.toUInt32 >>> ((2 : Int32) &&& 31).toUInt32).toInt32)), (.int (((ff.toUInt32 >>> ((16 : Int32) &&& 31).toUInt32).toInt32) &&& (255 : Int32)))])
    refine own_st (fun t_ k_ => XS.iconst X3.here hx rfl (hb hby at_67) k_) ?_
    show own_Go p e below _ T3 (mkF m 68 #[.val (.int le), .val (.int ff), .val (.int tt), .val (.int mo), .val (.int fl), .val (.int tl), .val (.int r2), .val (.int r3), .unset, .unset, .unset, .unset, .unset, .unset, .unset, .unset] [(.int (1 : Int32)), (.int ((mo.toUInt32 >>> ((2 : Int32) &&& 31).toUInt32).toInt32)), (.int (((ff.toUInt32 >>> ((16 : Int32) &&& 31).toUInt32).toInt32) &&& (255 : Int32)))])
    refine own_st (fun t_ k_ => XS.iand X3.here hx rfl (hb hby at_68) rfl k_) ?_
    show own_Go p e below _ T3 (mkF m 69 #[.val (.int le), .val (.int ff), .val (.int tt), .val (.int mo), .val (.int fl), .val (.int tl), .val (.int r2), .val (.int r3), .unset, .unset, .unset, .unset, .unset, .unset, .unset, .unset] [(.int (((mo.toUInt32 >>> ((2 : Int32) &&& 31).toUInt32).toInt32) &&& (1 : Int32))), (.int (((ff.toUInt32 >>> ((16 : Int32) &&& 31).toUInt32).toInt32) &&& (255 : Int32)))])
    refine own_callS X3 hx (y := (⟨"com/example/hebelwerk/hebelwerk/io/FixedFormMatchesPinLaw", "formChar", "(II)C"⟩ : MethodName)) hown (mvT hZ (hw _ (List.mem_of_getElem? (i := 0) rfl))) (mvT hZ (hw _ (List.mem_of_getElem? (i := 1) rfl))) (mvT hZ (hw _ (List.mem_of_getElem? (i := 2) rfl))) (mvT hZ (hw _ (List.mem_of_getElem? (i := 3) rfl))) (by decide) (backOf (W := 0) (rmFC l Z a0 hw [] (((ff.toUInt32 >>> ((16 : Int32) &&& 31).toUInt32).toInt32) &&& (255 : Int32)) (((mo.toUInt32 >>> ((2 : Int32) &&& 31).toUInt32).toInt32) &&& (1 : Int32)) h0 n0 (Nat.le_trans Z0 (Keep.refl h0 []).1) (own_a255 _)) hZ (hw _ (List.mem_of_getElem? (i := 3) rfl)) (hw _ (List.mem_of_getElem? (i := 2) rfl)) (by decide) (by decide)) (g := (mkF m 69 #[.val (.int le), .val (.int ff), .val (.int tt), .val (.int mo), .val (.int fl), .val (.int tl), .val (.int r2), .val (.int r3), .unset, .unset, .unset, .unset, .unset, .unset, .unset, .unset] [(.int (((mo.toUInt32 >>> ((2 : Int32) &&& 31).toUInt32).toInt32) &&& (1 : Int32))), (.int (((ff.toUInt32 >>> ((16 : Int32) &&& 31).toUInt32).toInt32) &&& (255 : Int32)))])) rfl (by rw [hml]; rfl) (argsL := [(.int (((ff.toUInt32 >>> ((16 : Int32) &&& 31).toUInt32).toInt32) &&& (255 : Int32))), (.int (((mo.toUInt32 >>> ((2 : Int32) &&& 31).toUInt32).toInt32) &&& (1 : Int32)))]) (rest := []) (lenOf pd_5 rfl) rfl (by show 2 * 0 + _ ≤ _; exact Nat.le_of_eq rfl) (hb hby at_69) rfl hh3 (by decide) (by decide) ?_
    rintro v4 T4 L4 X4 ⟨r4, rfl, Nq4, hh4, hl_r4⟩
    have N4 := Fr.app N3 Nq4
    show own_Go p e below _ T4 (mkF m 72 #[.val (.int le), .val (.int ff), .val (.int tt), .val (.int mo), .val (.int fl), .val (.int tl), .val (.int r2), .val (.int r3), .unset, .unset, .unset, .unset, .unset, .unset, .unset, .unset] [(.int r4)])
    refine own_st (fun t_ k_ => XS.istore X4.here hx rfl (hb hby at_72) rfl (l' := #[.val (.int le), .val (.int ff), .val (.int tt), .val (.int mo), .val (.int fl), .val (.int tl), .val (.int r2), .val (.int r3), .val (.int r4), .unset, .unset, .unset, .unset, .unset, .unset, .unset]) rfl k_) ?_
    show own_Go p e below _ T4 (mkF m 74 #[.val (.int le), .val (.int ff), .val (.int tt), .val (.int mo), .val (.int fl), .val (.int tl), .val (.int r2), .val (.int r3), .val (.int r4), .unset, .unset, .unset, .unset, .unset, .unset, .unset] [])
    refine own_st (fun t_ k_ => XS.iloadN X4.here hx rfl (hb hby at_74) rfl k_) ?_
    show own_Go p e below _ T4 (mkF m 75 #[.val (.int le), .val (.int ff), .val (.int tt), .val (.int mo), .val (.int fl), .val (.int tl), .val (.int r2), .val (.int r3), .val (.int r4), .unset, .unset, .unset, .unset, .unset, .unset, .unset] [(.int tt)])
    refine own_st (fun t_ k_ => XS.sipush X4.here hx rfl (hb hby at_75) k_) ?_
    show own_Go p e below _ T4 (mkF m 78 #[.val (.int le), .val (.int ff), .val (.int tt), .val (.int mo), .val (.int fl), .val (.int tl), .val (.int r2), .val (.int r3), .val (.int r4), .unset, .unset, .unset, .unset, .unset, .unset, .unset] [(.int (255 : Int32)), (.int tt)])
    refine own_st (fun t_ k_ => XS.iand X4.here hx rfl (hb hby at_78) rfl k_) ?_
    show own_Go p e below _ T4 (mkF m 79 #[.val (.int le), .val (.int ff), .val (.int tt), .val (.int mo), .val (.int fl), .val (.int tl), .val (.int r2), .val (.int r3), .val (.int r4), .unset, .unset, .unset, .unset, .unset, .unset, .unset] [(.int (tt &&& (255 : Int32)))])
    refine own_st (fun t_ k_ => XS.iloadN X4.here hx rfl (hb hby at_79) rfl k_) ?_
    show own_Go p e below _ T4 (mkF m 80 #[.val (.int le), .val (.int ff), .val (.int tt), .val (.int mo), .val (.int fl), .val (.int tl), .val (.int r2), .val (.int r3), .val (.int r4), .unset, .unset, .unset, .unset, .unset, .unset, .unset] [(.int mo), (.int (tt &&& (255 : Int32)))])
    refine own_st (fun t_ k_ => XS.iconst X4.here hx rfl (hb hby at_80) k_) ?_
    show own_Go p e below _ T4 (mkF m 81 #[.val (.int le), .val (.int ff), .val (.int tt), .val (.int mo), .val (.int fl), .val (.int tl), .val (.int r2), .val (.int r3), .val (.int r4), .unset, .unset, .unset, .unset, .unset, .unset, .unset] [(.int (3 : Int32)), (.int mo), (.int (tt &&& (255 : Int32)))])
    refine own_st (fun t_ k_ => XS.iushr X4.here hx rfl (hb hby at_81) rfl k_) ?_
    show own_Go p e below _ T4 (mkF m 82 #[.val (.int le), .val (.int ff), .val (.int tt), .val (.int mo), .val (.int fl), .val (.int tl), .val (.int r2), .val (.int r3), .val (.int r4), .unset, .unset, .unset, .unset, .unset, .unset, .unset] [(.int ((mo.toUInt32 >>> ((3 : Int32) &&& 31).toUInt32).toInt32)), (.int (tt &&& (255 : Int32)))])
    refine own_st (fun t_ k_ => XS.iconst X4.here hx rfl (hb hby at_82) k_) ?_
    show own_Go p e below _ T4 (mkF m 83 #[.val (.int le), .val (.int ff), .val (.int tt), .val (.int mo), .val (.int fl), .val (.int tl), .val (.int r2), .val (.int r3), .val (.int r4), .unset, .unset, .unset, .unset, .unset, .unset, .unset] [(.int (3 : Int32)), (.int ((mo.toUInt32 >>> ((3 : Int32) &&& 31).toUInt32).toInt32)), (.int (tt &&& (255 : Int32)))])
    refine own_st (fun t_ k_ => XS.iand X4.here hx rfl (hb hby at_83) rfl k_) ?_
    show own_Go p e below _ T4 (mkF m 84 #[.val (.int le), .val (.int ff), .val (.int tt), .val (.int mo), .val (.int fl), .val (.int tl), .val (.int r2), .val (.int r3), .val (.int r4), .unset, .unset, .unset, .unset, .unset, .unset, .unset] [(.int (((mo.toUInt32 >>> ((3 : Int32) &&& 31).toUInt32).toInt32) &&& (3 : Int32))), (.int (tt &&& (255 : Int32)))])
    refine own_st (fun t_ k_ => XS.iload X4.here hx rfl (hb hby at_84) rfl k_) ?_
    show own_Go p e below _ T4 (mkF m 86 #[.val (.int le), .val (.int ff), .val (.int tt), .val (.int mo), .val (.int fl), .val (.int tl), .val (.int r2), .val (.int r3), .val (.int r4), .unset, .unset, .unset, .unset, .unset, .unset, .unset] [(.int r2), (.int (((mo.toUInt32 >>> ((3 : Int32) &&& 31).toUInt32).toInt32) &&& (3 : Int32))), (.int (tt &&& (255 : Int32)))])
    refine own_callS X4 hx (y := (⟨"com/example/hebelwerk/hebelwerk/io/FixedFormMatchesPinLaw", "textChar", "(IIC)C"⟩ : MethodName)) hown (mvT hZ (hw _ (List.mem_of_getElem? (i := 4) rfl))) (mvT hZ (hw _ (List.mem_of_getElem? (i := 5) rfl))) (mvT hZ (hw _ (List.mem_of_getElem? (i := 2) rfl))) (mvT hZ (hw _ (List.mem_of_getElem? (i := 6) rfl))) (by decide) (backOf (W := 0) (rmTC l Z a0 hw [] (tt &&& (255 : Int32)) (((mo.toUInt32 >>> ((3 : Int32) &&& 31).toUInt32).toInt32) &&& (3 : Int32)) r2 h0 n0 (Nat.le_trans Z0 (Keep.refl h0 []).1) (own_a255 _) hl_r2) hZ (hw _ (List.mem_of_getElem? (i := 6) rfl)) (hw _ (List.mem_of_getElem? (i := 2) rfl)) (by decide) (by decide)) (g := (mkF m 86 #[.val (.int le), .val (.int ff), .val (.int tt), .val (.int mo), .val (.int fl), .val (.int tl), .val (.int r2), .val (.int r3), .val (.int r4), .unset, .unset, .unset, .unset, .unset, .unset, .unset] [(.int r2), (.int (((mo.toUInt32 >>> ((3 : Int32) &&& 31).toUInt32).toInt32) &&& (3 : Int32))), (.int (tt &&& (255 : Int32)))])) rfl (by rw [hml]; rfl) (argsL := [(.int (tt &&& (255 : Int32))), (.int (((mo.toUInt32 >>> ((3 : Int32) &&& 31).toUInt32).toInt32) &&& (3 : Int32))), (.int r2)]) (rest := []) (lenOf pd_6 rfl) rfl (by show 2 * 0 + _ ≤ _; exact Nat.le_of_eq rfl) (hb hby at_86) rfl hh4 (by decide) (by decide) ?_
    rintro v5 T5 L5 X5 ⟨r5, rfl, Nq5, hh5, hl_r5⟩
    have N5 := Fr.app N4 Nq5
    show own_Go p e below _ T5 (mkF m 89 #[.val (.int le), .val (.int ff), .val (.int tt), .val (.int mo), .val (.int fl), .val (.int tl), .val (.int r2), .val (.int r3), .val (.int r4), .unset, .unset, .unset, .unset, .unset, .unset, .unset] [(.int r5)])
    refine own_st (fun t_ k_ => XS.istore X5.here hx rfl (hb hby at_89) rfl (l' := #[.val (.int le), .val (.int ff), .val (.int tt), .val (.int mo), .val (.int fl), .val (.int tl), .val (.int r2), .val (.int r3), .val (.int r4), .val (.int r5), .unset, .unset, .unset, .unset, .unset, .unset]) rfl k_) ?_
    show own_Go p e below _ T5 (mkF m 91 #[.val (.int le), .val (.int ff), .val (.int tt), .val (.int mo), .val (.int fl), .val (.int tl), .val (.int r2), .val (.int r3), .val (.int r4), .val (.int r5), .unset, .unset, .unset, .unset, .unset, .unset] [])
    refine own_st (fun t_ k_ => XS.iloadN X5.here hx rfl (hb hby at_91) rfl k_) ?_
    show own_Go p e below _ T5 (mkF m 92 #[.val (.int le), .val (.int ff), .val (.int tt), .val (.int mo), .val (.int fl), .val (.int tl), .val (.int r2), .val (.int r3), .val (.int r4), .val (.int r5), .unset, .unset, .unset, .unset, .unset, .unset] [(.int tt)])
    refine own_st (fun t_ k_ => XS.bipush X5.here hx rfl (hb hby at_92) k_) ?_
    show own_Go p e below _ T5 (mkF m 94 #[.val (.int le), .val (.int ff), .val (.int tt), .val (.int mo), .val (.int fl), .val (.int tl), .val (.int r2), .val (.int r3), .val (.int r4), .val (.int r5), .unset, .unset, .unset, .unset, .unset, .unset] [(.int (8 : Int32)), (.int tt)])
    refine own_st (fun t_ k_ => XS.iushr X5.here hx rfl (hb hby at_94) rfl k_) ?_
    show own_Go p e below _ T5 (mkF m 95 #[.val (.int le), .val (.int ff), .val (.int tt), .val (.int mo), .val (.int fl), .val (.int tl), .val (.int r2), .val (.int r3), .val (.int r4), .val (.int r5), .unset, .unset, .unset, .unset, .unset, .unset] [(.int ((tt.toUInt32 >>> ((8 : Int32) &&& 31).toUInt32).toInt32))])
    refine own_st (fun t_ k_ => XS.sipush X5.here hx rfl (hb hby at_95) k_) ?_
    show own_Go p e below _ T5 (mkF m 98 #[.val (.int le), .val (.int ff), .val (.int tt), .val (.int mo), .val (.int fl), .val (.int tl), .val (.int r2), .val (.int r3), .val (.int r4), .val (.int r5), .unset, .unset, .unset, .unset, .unset, .unset] [(.int (255 : Int32)), (.int ((tt.toUInt32 >>> ((8 : Int32) &&& 31).toUInt32).toInt32))])
    refine own_st (fun t_ k_ => XS.iand X5.here hx rfl (hb hby at_98) rfl k_) ?_
    show own_Go p e below _ T5 (mkF m 99 #[.val (.int le), .val (.int ff), .val (.int tt), .val (.int mo), .val (.int fl), .val (.int tl), .val (.int r2), .val (.int r3), .val (.int r4), .val (.int r5), .unset, .unset, .unset, .unset, .unset, .unset] [(.int (((tt.toUInt32 >>> ((8 : Int32) &&& 31).toUInt32).toInt32) &&& (255 : Int32)))])
    refine own_st (fun t_ k_ => XS.iloadN X5.here hx rfl (hb hby at_99) rfl k_) ?_
    show own_Go p e below _ T5 (mkF m 100 #[.val (.int le), .val (.int ff), .val (.int tt), .val (.int mo), .val (.int fl), .val (.int tl), .val (.int r2), .val (.int r3), .val (.int r4), .val (.int r5), .unset, .unset, .unset, .unset, .unset, .unset] [(.int mo), (.int (((tt.toUInt32 >>> ((8 : Int32) &&& 31).toUInt32).toInt32) &&& (255 : Int32)))])
    refine own_st (fun t_ k_ => XS.iconst X5.here hx rfl (hb hby at_100) k_) ?_
    show own_Go p e below _ T5 (mkF m 101 #[.val (.int le), .val (.int ff), .val (.int tt), .val (.int mo), .val (.int fl), .val (.int tl), .val (.int r2), .val (.int r3), .val (.int r4), .val (.int r5), .unset, .unset, .unset, .unset, .unset, .unset] [(.int (5 : Int32)), (.int mo), (.int (((tt.toUInt32 >>> ((8 : Int32) &&& 31).toUInt32).toInt32) &&& (255 : Int32)))])
    refine own_st (fun t_ k_ => XS.iushr X5.here hx rfl (hb hby at_101) rfl k_) ?_
    show own_Go p e below _ T5 (mkF m 102 #[.val (.int le), .val (.int ff), .val (.int tt), .val (.int mo), .val (.int fl), .val (.int tl), .val (.int r2), .val (.int r3), .val (.int r4), .val (.int r5), .unset, .unset, .unset, .unset, .unset, .unset] [(.int ((mo.toUInt32 >>> ((5 : Int32) &&& 31).toUInt32).toInt32)), (.int (((tt.toUInt32 >>> ((8 : Int32) &&& 31).toUInt32).toInt32) &&& (255 : Int32)))])
    refine own_st (fun t_ k_ => XS.iconst X5.here hx rfl (hb hby at_102) k_) ?_
    show own_Go p e below _ T5 (mkF m 103 #[.val (.int le), .val (.int ff), .val (.int tt), .val (.int mo), .val (.int fl), .val (.int tl), .val (.int r2), .val (.int r3), .val (.int r4), .val (.int r5), .unset, .unset, .unset, .unset, .unset, .unset] [(.int (3 : Int32)), (.int ((mo.toUInt32 >>> ((5 : Int32) &&& 31).toUInt32).toInt32)), (.int (((tt.toUInt32 >>> ((8 : Int32) &&& 31).toUInt32).toInt32) &&& (255 : Int32)))])
    refine own_st (fun t_ k_ => XS.iand X5.here hx rfl (hb hby at_103) rfl k_) ?_
    show own_Go p e below _ T5 (mkF m 104 #[.val (.int le), .val (.int ff), .val (.int tt), .val (.int mo), .val (.int fl), .val (.int tl), .val (.int r2), .val (.int r3), .val (.int r4), .val (.int r5), .unset, .unset, .unset, .unset, .unset, .unset] [(.int (((mo.toUInt32 >>> ((5 : Int32) &&& 31).toUInt32).toInt32) &&& (3 : Int32))), (.int (((tt.toUInt32 >>> ((8 : Int32) &&& 31).toUInt32).toInt32) &&& (255 : Int32)))])
    refine own_st (fun t_ k_ => XS.iload X5.here hx rfl (hb hby at_104) rfl k_) ?_
    show own_Go p e below _ T5 (mkF m 106 #[.val (.int le), .val (.int ff), .val (.int tt), .val (.int mo), .val (.int fl), .val (.int tl), .val (.int r2), .val (.int r3), .val (.int r4), .val (.int r5), .unset, .unset, .unset, .unset, .unset, .unset] [(.int r3), (.int (((mo.toUInt32 >>> ((5 : Int32) &&& 31).toUInt32).toInt32) &&& (3 : Int32))), (.int (((tt.toUInt32 >>> ((8 : Int32) &&& 31).toUInt32).toInt32) &&& (255 : Int32)))])
    refine own_callS X5 hx (y := (⟨"com/example/hebelwerk/hebelwerk/io/FixedFormMatchesPinLaw", "textChar", "(IIC)C"⟩ : MethodName)) hown (mvT hZ (hw _ (List.mem_of_getElem? (i := 4) rfl))) (mvT hZ (hw _ (List.mem_of_getElem? (i := 5) rfl))) (mvT hZ (hw _ (List.mem_of_getElem? (i := 2) rfl))) (mvT hZ (hw _ (List.mem_of_getElem? (i := 6) rfl))) (by decide) (backOf (W := 0) (rmTC l Z a0 hw [] (((tt.toUInt32 >>> ((8 : Int32) &&& 31).toUInt32).toInt32) &&& (255 : Int32)) (((mo.toUInt32 >>> ((5 : Int32) &&& 31).toUInt32).toInt32) &&& (3 : Int32)) r3 h0 n0 (Nat.le_trans Z0 (Keep.refl h0 []).1) (own_a255 _) hl_r3) hZ (hw _ (List.mem_of_getElem? (i := 6) rfl)) (hw _ (List.mem_of_getElem? (i := 2) rfl)) (by decide) (by decide)) (g := (mkF m 106 #[.val (.int le), .val (.int ff), .val (.int tt), .val (.int mo), .val (.int fl), .val (.int tl), .val (.int r2), .val (.int r3), .val (.int r4), .val (.int r5), .unset, .unset, .unset, .unset, .unset, .unset] [(.int r3), (.int (((mo.toUInt32 >>> ((5 : Int32) &&& 31).toUInt32).toInt32) &&& (3 : Int32))), (.int (((tt.toUInt32 >>> ((8 : Int32) &&& 31).toUInt32).toInt32) &&& (255 : Int32)))])) rfl (by rw [hml]; rfl) (argsL := [(.int (((tt.toUInt32 >>> ((8 : Int32) &&& 31).toUInt32).toInt32) &&& (255 : Int32))), (.int (((mo.toUInt32 >>> ((5 : Int32) &&& 31).toUInt32).toInt32) &&& (3 : Int32))), (.int r3)]) (rest := []) (lenOf pd_6 rfl) rfl (by show 2 * 0 + _ ≤ _; exact Nat.le_of_eq rfl) (hb hby at_106) rfl hh5 (by decide) (by decide) ?_
    rintro v6 T6 L6 X6 ⟨r6, rfl, Nq6, hh6, hl_r6⟩
    have N6 := Fr.app N5 Nq6
    show own_Go p e below _ T6 (mkF m 109 #[.val (.int le), .val (.int ff), .val (.int tt), .val (.int mo), .val (.int fl), .val (.int tl), .val (.int r2), .val (.int r3), .val (.int r4), .val (.int r5), .unset, .unset, .unset, .unset, .unset, .unset] [(.int r6)])
    refine own_st (fun t_ k_ => XS.istore X6.here hx rfl (hb hby at_109) rfl (l' := #[.val (.int le), .val (.int ff), .val (.int tt), .val (.int mo), .val (.int fl), .val (.int tl), .val (.int r2), .val (.int r3), .val (.int r4), .val (.int r5), .val (.int r6), .unset, .unset, .unset, .unset, .unset]) rfl k_) ?_
    show own_Go p e below _ T6 (mkF m 111 #[.val (.int le), .val (.int ff), .val (.int tt), .val (.int mo), .val (.int fl), .val (.int tl), .val (.int r2), .val (.int r3), .val (.int r4), .val (.int r5), .val (.int r6), .unset, .unset, .unset, .unset, .unset] [])
    refine own_st (fun t_ k_ => XS.iloadN X6.here hx rfl (hb hby at_111) rfl k_) ?_
    show own_Go p e below _ T6 (mkF m 112 #[.val (.int le), .val (.int ff), .val (.int tt), .val (.int mo), .val (.int fl), .val (.int tl), .val (.int r2), .val (.int r3), .val (.int r4), .val (.int r5), .val (.int r6), .unset, .unset, .unset, .unset, .unset] [(.int tt)])
    refine own_st (fun t_ k_ => XS.bipush X6.here hx rfl (hb hby at_112) k_) ?_
    show own_Go p e below _ T6 (mkF m 114 #[.val (.int le), .val (.int ff), .val (.int tt), .val (.int mo), .val (.int fl), .val (.int tl), .val (.int r2), .val (.int r3), .val (.int r4), .val (.int r5), .val (.int r6), .unset, .unset, .unset, .unset, .unset] [(.int (16 : Int32)), (.int tt)])
    refine own_st (fun t_ k_ => XS.iushr X6.here hx rfl (hb hby at_114) rfl k_) ?_
    show own_Go p e below _ T6 (mkF m 115 #[.val (.int le), .val (.int ff), .val (.int tt), .val (.int mo), .val (.int fl), .val (.int tl), .val (.int r2), .val (.int r3), .val (.int r4), .val (.int r5), .val (.int r6), .unset, .unset, .unset, .unset, .unset] [(.int ((tt.toUInt32 >>> ((16 : Int32) &&& 31).toUInt32).toInt32))])
    refine own_st (fun t_ k_ => XS.sipush X6.here hx rfl (hb hby at_115) k_) ?_
    show own_Go p e below _ T6 (mkF m 118 #[.val (.int le), .val (.int ff), .val (.int tt), .val (.int mo), .val (.int fl), .val (.int tl), .val (.int r2), .val (.int r3), .val (.int r4), .val (.int r5), .val (.int r6), .unset, .unset, .unset, .unset, .unset] [(.int (255 : Int32)), (.int ((tt.toUInt32 >>> ((16 : Int32) &&& 31).toUInt32).toInt32))])
    refine own_st (fun t_ k_ => XS.iand X6.here hx rfl (hb hby at_118) rfl k_) ?_
    show own_Go p e below _ T6 (mkF m 119 #[.val (.int le), .val (.int ff), .val (.int tt), .val (.int mo), .val (.int fl), .val (.int tl), .val (.int r2), .val (.int r3), .val (.int r4), .val (.int r5), .val (.int r6), .unset, .unset, .unset, .unset, .unset] [(.int (((tt.toUInt32 >>> ((16 : Int32) &&& 31).toUInt32).toInt32) &&& (255 : Int32)))])
    refine own_st (fun t_ k_ => XS.iloadN X6.here hx rfl (hb hby at_119) rfl k_) ?_
    show own_Go p e below _ T6 (mkF m 120 #[.val (.int le), .val (.int ff), .val (.int tt), .val (.int mo), .val (.int fl), .val (.int tl), .val (.int r2), .val (.int r3), .val (.int r4), .val (.int r5), .val (.int r6), .unset, .unset, .unset, .unset, .unset] [(.int mo), (.int (((tt.toUInt32 >>> ((16 : Int32) &&& 31).toUInt32).toInt32) &&& (255 : Int32)))])
    refine own_st (fun t_ k_ => XS.bipush X6.here hx rfl (hb hby at_120) k_) ?_
    show own_Go p e below _ T6 (mkF m 122 #[.val (.int le), .val (.int ff), .val (.int tt), .val (.int mo), .val (.int fl), .val (.int tl), .val (.int r2), .val (.int r3), .val (.int r4), .val (.int r5), .val (.int r6), .unset, .unset, .unset, .unset, .unset] [(.int (7 : Int32)), (.int mo), (.int (((tt.toUInt32 >>> ((16 : Int32) &&& 31).toUInt32).toInt32) &&& (255 : Int32)))])
    refine own_st (fun t_ k_ => XS.iushr X6.here hx rfl (hb hby at_122) rfl k_) ?_
    show own_Go p e below _ T6 (mkF m 123 #[.val (.int le), .val (.int ff), .val (.int tt), .val (.int mo), .val (.int fl), .val (.int tl), .val (.int r2), .val (.int r3), .val (.int r4), .val (.int r5), .val (.int r6), .unset, .unset, .unset, .unset, .unset] [(.int ((mo.toUInt32 >>> ((7 : Int32) &&& 31).toUInt32).toInt32)), (.int (((tt.toUInt32 >>> ((16 : Int32) &&& 31).toUInt32).toInt32) &&& (255 : Int32)))])
    refine own_st (fun t_ k_ => XS.iconst X6.here hx rfl (hb hby at_123) k_) ?_
    show own_Go p e below _ T6 (mkF m 124 #[.val (.int le), .val (.int ff), .val (.int tt), .val (.int mo), .val (.int fl), .val (.int tl), .val (.int r2), .val (.int r3), .val (.int r4), .val (.int r5), .val (.int r6), .unset, .unset, .unset, .unset, .unset] [(.int (3 : Int32)), (.int ((mo.toUInt32 >>> ((7 : Int32) &&& 31).toUInt32).toInt32)), (.int (((tt.toUInt32 >>> ((16 : Int32) &&& 31).toUInt32).toInt32) &&& (255 : Int32)))])
    refine own_st (fun t_ k_ => XS.iand X6.here hx rfl (hb hby at_124) rfl k_) ?_
    show own_Go p e below _ T6 (mkF m 125 #[.val (.int le), .val (.int ff), .val (.int tt), .val (.int mo), .val (.int fl), .val (.int tl), .val (.int r2), .val (.int r3), .val (.int r4), .val (.int r5), .val (.int r6), .unset, .unset, .unset, .unset, .unset] [(.int (((mo.toUInt32 >>> ((7 : Int32) &&& 31).toUInt32).toInt32) &&& (3 : Int32))), (.int (((tt.toUInt32 >>> ((16 : Int32) &&& 31).toUInt32).toInt32) &&& (255 : Int32)))])
    refine own_st (fun t_ k_ => XS.iload X6.here hx rfl (hb hby at_125) rfl k_) ?_
    show own_Go p e below _ T6 (mkF m 127 #[.val (.int le), .val (.int ff), .val (.int tt), .val (.int mo), .val (.int fl), .val (.int tl), .val (.int r2), .val (.int r3), .val (.int r4), .val (.int r5), .val (.int r6), .unset, .unset, .unset, .unset, .unset] [(.int r4), (.int (((mo.toUInt32 >>> ((7 : Int32) &&& 31).toUInt32).toInt32) &&& (3 : Int32))), (.int (((tt.toUInt32 >>> ((16 : Int32) &&& 31).toUInt32).toInt32) &&& (255 : Int32)))])
    refine own_callS X6 hx (y := (⟨"com/example/hebelwerk/hebelwerk/io/FixedFormMatchesPinLaw", "textChar", "(IIC)C"⟩ : MethodName)) hown (mvT hZ (hw _ (List.mem_of_getElem? (i := 4) rfl))) (mvT hZ (hw _ (List.mem_of_getElem? (i := 5) rfl))) (mvT hZ (hw _ (List.mem_of_getElem? (i := 2) rfl))) (mvT hZ (hw _ (List.mem_of_getElem? (i := 6) rfl))) (by decide) (backOf (W := 0) (rmTC l Z a0 hw [] (((tt.toUInt32 >>> ((16 : Int32) &&& 31).toUInt32).toInt32) &&& (255 : Int32)) (((mo.toUInt32 >>> ((7 : Int32) &&& 31).toUInt32).toInt32) &&& (3 : Int32)) r4 h0 n0 (Nat.le_trans Z0 (Keep.refl h0 []).1) (own_a255 _) hl_r4) hZ (hw _ (List.mem_of_getElem? (i := 6) rfl)) (hw _ (List.mem_of_getElem? (i := 2) rfl)) (by decide) (by decide)) (g := (mkF m 127 #[.val (.int le), .val (.int ff), .val (.int tt), .val (.int mo), .val (.int fl), .val (.int tl), .val (.int r2), .val (.int r3), .val (.int r4), .val (.int r5), .val (.int r6), .unset, .unset, .unset, .unset, .unset] [(.int r4), (.int (((mo.toUInt32 >>> ((7 : Int32) &&& 31).toUInt32).toInt32) &&& (3 : Int32))), (.int (((tt.toUInt32 >>> ((16 : Int32) &&& 31).toUInt32).toInt32) &&& (255 : Int32)))])) rfl (by rw [hml]; rfl) (argsL := [(.int (((tt.toUInt32 >>> ((16 : Int32) &&& 31).toUInt32).toInt32) &&& (255 : Int32))), (.int (((mo.toUInt32 >>> ((7 : Int32) &&& 31).toUInt32).toInt32) &&& (3 : Int32))), (.int r4)]) (rest := []) (lenOf pd_6 rfl) rfl (by show 2 * 0 + _ ≤ _; exact Nat.le_of_eq rfl) (hb hby at_127) rfl hh6 (by decide) (by decide) ?_
    rintro v7 T7 L7 X7 ⟨r7, rfl, Nq7, hh7, hl_r7⟩
    have N7 := Fr.app N6 Nq7
    show own_Go p e below _ T7 (mkF m 130 #[.val (.int le), .val (.int ff), .val (.int tt), .val (.int mo), .val (.int fl), .val (.int tl), .val (.int r2), .val (.int r3), .val (.int r4), .val (.int r5), .val (.int r6), .unset, .unset, .unset, .unset, .unset] [(.int r7)])
    refine own_st (fun t_ k_ => XS.istore X7.here hx rfl (hb hby at_130) rfl (l' := #[.val (.int le), .val (.int ff), .val (.int tt), .val (.int mo), .val (.int fl), .val (.int tl), .val (.int r2), .val (.int r3), .val (.int r4), .val (.int r5), .val (.int r6), .val (.int r7), .unset, .unset, .unset, .unset]) rfl k_) ?_
    show own_Go p e below _ T7 (mkF m 132 #[.val (.int le), .val (.int ff), .val (.int tt), .val (.int mo), .val (.int fl), .val (.int tl), .val (.int r2), .val (.int r3), .val (.int r4), .val (.int r5), .val (.int r6), .val (.int r7), .unset, .unset, .unset, .unset] [])
    refine own_st (fun t_ k_ => XS.iload X7.here hx rfl (hb hby at_132) rfl k_) ?_
    show own_Go p e below _ T7 (mkF m 134 #[.val (.int le), .val (.int ff), .val (.int tt), .val (.int mo), .val (.int fl), .val (.int tl), .val (.int r2), .val (.int r3), .val (.int r4), .val (.int r5), .val (.int r6), .val (.int r7), .unset, .unset, .unset, .unset] [(.int fl)])
    refine own_st (fun t_ k_ => XS.iload X7.here hx rfl (hb hby at_134) rfl k_) ?_
    show own_Go p e below _ T7 (mkF m 136 #[.val (.int le), .val (.int ff), .val (.int tt), .val (.int mo), .val (.int fl), .val (.int tl), .val (.int r2), .val (.int r3), .val (.int r4), .val (.int r5), .val (.int r6), .val (.int r7), .unset, .unset, .unset, .unset] [(.int r2), (.int fl)])
    refine own_st (fun t_ k_ => XS.iload X7.here hx rfl (hb hby at_136) rfl k_) ?_
    show own_Go p e below _ T7 (mkF m 138 #[.val (.int le), .val (.int ff), .val (.int tt), .val (.int mo), .val (.int fl), .val (.int tl), .val (.int r2), .val (.int r3), .val (.int r4), .val (.int r5), .val (.int r6), .val (.int r7), .unset, .unset, .unset, .unset] [(.int r3), (.int r2), (.int fl)])
    refine own_st (fun t_ k_ => XS.iload X7.here hx rfl (hb hby at_138) rfl k_) ?_
    show own_Go p e below _ T7 (mkF m 140 #[.val (.int le), .val (.int ff), .val (.int tt), .val (.int mo), .val (.int fl), .val (.int tl), .val (.int r2), .val (.int r3), .val (.int r4), .val (.int r5), .val (.int r6), .val (.int r7), .unset, .unset, .unset, .unset] [(.int r4), (.int r3), (.int r2), (.int fl)])
    refine own_callSS X7 hx (y := (⟨"com/example/hebelwerk/hebelwerk/io/FixedFormMatchesPinLaw", "make", "(ICCC)Ljava/lang/String;"⟩ : MethodName)) hown (mvT hZ (hw _ (List.mem_of_getElem? (i := 7) rfl))) (mvT hZ (hw _ (List.mem_of_getElem? (i := 8) rfl))) (mvT hZ (hw _ (List.mem_of_getElem? (i := 2) rfl))) (mvT hZ (hw _ (List.mem_of_getElem? (i := 9) rfl))) (by decide) (backOfSH (W := 0) (rmMK l Z a0 hw [] fl r2 r3 r4 G h0 n0 (Nat.le_trans Z0 (Keep.refl h0 []).1) SC hCS O0 d_fl hl_r2 hl_r3 hl_r4) hZ (hw _ (List.mem_of_getElem? (i := 9) rfl)) (hw _ (List.mem_of_getElem? (i := 2) rfl)) (by decide) (by decide) hEL (own_Bk.ch B0)) (g := (mkF m 140 #[.val (.int le), .val (.int ff), .val (.int tt), .val (.int mo), .val (.int fl), .val (.int tl), .val (.int r2), .val (.int r3), .val (.int r4), .val (.int r5), .val (.int r6), .val (.int r7), .unset, .unset, .unset, .unset] [(.int r4), (.int r3), (.int r2), (.int fl)])) rfl (by rw [hml]; rfl) (argsL := [(.int fl), (.int r2), (.int r3), (.int r4)]) (rest := []) (lenOf pd_7 rfl) rfl (by show 2 * 0 + _ ≤ _; exact Nat.le_of_eq rfl) (hb hby at_140) rfl hh7 (by decide) (by decide) hZ B0 ?_
    rintro v8 T8 L8 X8 ⟨x8, t8, kb8, rfl, Nq8, Kq8, gx8, g_x8, nt8, Ex8, Cq8, Vq8, Aq8, hp8⟩ CH8 B8 hZ hown
    have hZ : Z.Warmed39 (s.setVm T8.vm).vm := hZ
    have hown : (s.setVm T8.vm).vm.findClass "com/example/hebelwerk/hebelwerk/io/FixedFormMatchesPinLaw" = some m.cls := hown
    have N8 := Fr.app N7 Nq8
    have K8 : Keep h0 T8.heap [] := (Keep.refl h0 []).trans Kq8 all0
    have sz_x8 : h0.size ≤ x8 := Nat.le_trans (Keep.refl h0 []).1 gx8
    show own_Go p e below _ T8 (mkF m 143 #[.val (.int le), .val (.int ff), .val (.int tt), .val (.int mo), .val (.int fl), .val (.int tl), .val (.int r2), .val (.int r3), .val (.int r4), .val (.int r5), .val (.int r6), .val (.int r7), .unset, .unset, .unset, .unset] [(.ref x8)])
    refine own_st (fun t_ k_ => XS.astore X8.here hx rfl (hb hby at_143) rfl rfl (l' := #[.val (.int le), .val (.int ff), .val (.int tt), .val (.int mo), .val (.int fl), .val (.int tl), .val (.int r2), .val (.int r3), .val (.int r4), .val (.int r5), .val (.int r6), .val (.int r7), .val (.ref x8), .unset, .unset, .unset]) rfl k_) ?_
    show own_Go p e below _ T8 (mkF m 145 #[.val (.int le), .val (.int ff), .val (.int tt), .val (.int mo), .val (.int fl), .val (.int tl), .val (.int r2), .val (.int r3), .val (.int r4), .val (.int r5), .val (.int r6), .val (.int r7), .val (.ref x8), .unset, .unset, .unset] [])
    refine own_st (fun t_ k_ => XS.iload X8.here hx rfl (hb hby at_145) rfl k_) ?_
    show own_Go p e below _ T8 (mkF m 147 #[.val (.int le), .val (.int ff), .val (.int tt), .val (.int mo), .val (.int fl), .val (.int tl), .val (.int r2), .val (.int r3), .val (.int r4), .val (.int r5), .val (.int r6), .val (.int r7), .val (.ref x8), .unset, .unset, .unset] [(.int tl)])
    refine own_st (fun t_ k_ => XS.iload X8.here hx rfl (hb hby at_147) rfl k_) ?_
    show own_Go p e below _ T8 (mkF m 149 #[.val (.int le), .val (.int ff), .val (.int tt), .val (.int mo), .val (.int fl), .val (.int tl), .val (.int r2), .val (.int r3), .val (.int r4), .val (.int r5), .val (.int r6), .val (.int r7), .val (.ref x8), .unset, .unset, .unset] [(.int r5), (.int tl)])
    refine own_st (fun t_ k_ => XS.iload X8.here hx rfl (hb hby at_149) rfl k_) ?_
    show own_Go p e below _ T8 (mkF m 151 #[.val (.int le), .val (.int ff), .val (.int tt), .val (.int mo), .val (.int fl), .val (.int tl), .val (.int r2), .val (.int r3), .val (.int r4), .val (.int r5), .val (.int r6), .val (.int r7), .val (.ref x8), .unset, .unset, .unset] [(.int r6), (.int r5), (.int tl)])
    refine own_st (fun t_ k_ => XS.iload X8.here hx rfl (hb hby at_151) rfl k_) ?_
    show own_Go p e below _ T8 (mkF m 153 #[.val (.int le), .val (.int ff), .val (.int tt), .val (.int mo), .val (.int fl), .val (.int tl), .val (.int r2), .val (.int r3), .val (.int r4), .val (.int r5), .val (.int r6), .val (.int r7), .val (.ref x8), .unset, .unset, .unset] [(.int r7), (.int r6), (.int r5), (.int tl)])
    have f9 := (O0.keep Kq8 all0)
    refine own_callSS X8 hx (y := (⟨"com/example/hebelwerk/hebelwerk/io/FixedFormMatchesPinLaw", "make", "(ICCC)Ljava/lang/String;"⟩ : MethodName)) hown (mvT hZ (hw _ (List.mem_of_getElem? (i := 7) rfl))) (mvT hZ (hw _ (List.mem_of_getElem? (i := 8) rfl))) (mvT hZ (hw _ (List.mem_of_getElem? (i := 2) rfl))) (mvT hZ (hw _ (List.mem_of_getElem? (i := 9) rfl))) (by decide) (backOfSH (W := 0) (rmMK l Z a0 hw [] tl r5 r6 r7 G T8.heap n0 (Nat.le_trans Z0 K8.1) SC hCS f9 d_tl hl_r5 hl_r6 hl_r7) hZ (hw _ (List.mem_of_getElem? (i := 9) rfl)) (hw _ (List.mem_of_getElem? (i := 2) rfl)) (by decide) (by decide) hEL (own_Bk.ch B8)) (g := (mkF m 153 #[.val (.int le), .val (.int ff), .val (.int tt), .val (.int mo), .val (.int fl), .val (.int tl), .val (.int r2), .val (.int r3), .val (.int r4), .val (.int r5), .val (.int r6), .val (.int r7), .val (.ref x8), .unset, .unset, .unset] [(.int r7), (.int r6), (.int r5), (.int tl)])) rfl (by rw [hml]; rfl) (argsL := [(.int tl), (.int r5), (.int r6), (.int r7)]) (rest := []) (lenOf pd_7 rfl) rfl (by show 2 * 0 + _ ≤ _; exact Nat.le_of_eq rfl) (hb hby at_153) rfl rfl (by decide) (by decide) hZ B8 ?_
    rintro v10 T10 L10 X10 ⟨x10, t10, kb10, rfl, Nq10, Kq10, gx10, g_x10, nt10, Ex10, Cq10, Vq10, Aq10, hp10⟩ CH10 B10 hZ hown
    have hZ : Z.Warmed39 (s.setVm T10.vm).vm := hZ
    have hown : (s.setVm T10.vm).vm.findClass "com/example/hebelwerk/hebelwerk/io/FixedFormMatchesPinLaw" = some m.cls := hown
    have N10 := Fr.app N8 Nq10
    have K10 : Keep h0 T10.heap [] := K8.trans Kq10 all0
    have sz_x10 : h0.size ≤ x10 := Nat.le_trans K8.1 gx10
    show own_Go p e below _ T10 (mkF m 156 #[.val (.int le), .val (.int ff), .val (.int tt), .val (.int mo), .val (.int fl), .val (.int tl), .val (.int r2), .val (.int r3), .val (.int r4), .val (.int r5), .val (.int r6), .val (.int r7), .val (.ref x8), .unset, .unset, .unset] [(.ref x10)])
    refine own_st (fun t_ k_ => XS.astore X10.here hx rfl (hb hby at_156) rfl rfl (l' := #[.val (.int le), .val (.int ff), .val (.int tt), .val (.int mo), .val (.int fl), .val (.int tl), .val (.int r2), .val (.int r3), .val (.int r4), .val (.int r5), .val (.int r6), .val (.int r7), .val (.ref x8), .val (.ref x10), .unset, .unset]) rfl k_) ?_
    show own_Go p e below _ T10 (mkF m 158 #[.val (.int le), .val (.int ff), .val (.int tt), .val (.int mo), .val (.int fl), .val (.int tl), .val (.int r2), .val (.int r3), .val (.int r4), .val (.int r5), .val (.int r6), .val (.int r7), .val (.ref x8), .val (.ref x10), .unset, .unset] [])
    refine own_st (fun t_ k_ => XS.iload X10.here hx rfl (hb hby at_158) rfl k_) ?_
    show own_Go p e below _ T10 (mkF m 160 #[.val (.int le), .val (.int ff), .val (.int tt), .val (.int mo), .val (.int fl), .val (.int tl), .val (.int r2), .val (.int r3), .val (.int r4), .val (.int r5), .val (.int r6), .val (.int r7), .val (.ref x8), .val (.ref x10), .unset, .unset] [(.int fl)])
    refine own_st (fun t_ k_ => XS.iload X10.here hx rfl (hb hby at_160) rfl k_) ?_
    show own_Go p e below _ T10 (mkF m 162 #[.val (.int le), .val (.int ff), .val (.int tt), .val (.int mo), .val (.int fl), .val (.int tl), .val (.int r2), .val (.int r3), .val (.int r4), .val (.int r5), .val (.int r6), .val (.int r7), .val (.ref x8), .val (.ref x10), .unset, .unset] [(.int tl), (.int fl)])
    by_cases hlt : fl = tl
    · refine own_st (fun t_ k_ => XS.icmpNo X10.here hx rfl (hb hby at_162) rfl (teq hlt).2 k_) ?_
      show own_Go p e below _ T10 (mkF m 165 #[.val (.int le), .val (.int ff), .val (.int tt), .val (.int mo), .val (.int fl), .val (.int tl), .val (.int r2), .val (.int r3), .val (.int r4), .val (.int r5), .val (.int r6), .val (.int r7), .val (.ref x8), .val (.ref x10), .unset, .unset] [])
      subst hlt
      show own_Go p e below _ T10 (mkF m 165 #[.val (.int le), .val (.int ff), .val (.int tt), .val (.int mo), .val (.int fl), .val (.int fl), .val (.int r2), .val (.int r3), .val (.int r4), .val (.int r5), .val (.int r6), .val (.int r7), .val (.ref x8), .val (.ref x10), .unset, .unset] [])
      rcases (d_fl : fl = (0 : Int32) ∨ fl = (1 : Int32) ∨ fl = (2 : Int32) ∨ fl = (3 : Int32)) with rfl | rfl | rfl | rfl
      · show own_Go p e below _ T10 (mkF m 165 #[.val (.int le), .val (.int ff), .val (.int tt), .val (.int mo), .val (.int (0 : Int32)), .val (.int (0 : Int32)), .val (.int r2), .val (.int r3), .val (.int r4), .val (.int r5), .val (.int r6), .val (.int r7), .val (.ref x8), .val (.ref x10), .unset, .unset] [])
        refine own_st (fun t_ k_ => XS.iconst X10.here hx rfl (hb hby at_165) k_) ?_
        show own_Go p e below _ T10 (mkF m 166 #[.val (.int le), .val (.int ff), .val (.int tt), .val (.int mo), .val (.int (0 : Int32)), .val (.int (0 : Int32)), .val (.int r2), .val (.int r3), .val (.int r4), .val (.int r5), .val (.int r6), .val (.int r7), .val (.ref x8), .val (.ref x10), .unset, .unset] [(.int (1 : Int32))])
        refine own_st (fun t_ k_ => XS.goto X10.here hx rfl (pc0 := 166) (pc' := 170) rfl (hb hby at_166) (by decide) (by decide) k_) ?_
        show own_Go p e below _ T10 (mkF m 170 #[.val (.int le), .val (.int ff), .val (.int tt), .val (.int mo), .val (.int (0 : Int32)), .val (.int (0 : Int32)), .val (.int r2), .val (.int r3), .val (.int r4), .val (.int r5), .val (.int r6), .val (.int r7), .val (.ref x8), .val (.ref x10), .unset, .unset] [(.int (1 : Int32))])
        refine own_st (fun t_ k_ => XS.istore X10.here hx rfl (hb hby at_170) rfl (l' := #[.val (.int le), .val (.int ff), .val (.int tt), .val (.int mo), .val (.int (0 : Int32)), .val (.int (0 : Int32)), .val (.int r2), .val (.int r3), .val (.int r4), .val (.int r5), .val (.int r6), .val (.int r7), .val (.ref x8), .val (.ref x10), .val (.int (1 : Int32)), .unset]) rfl k_) ?_
        show own_Go p e below _ T10 (mkF m 172 #[.val (.int le), .val (.int ff), .val (.int tt), .val (.int mo), .val (.int (0 : Int32)), .val (.int (0 : Int32)), .val (.int r2), .val (.int r3), .val (.int r4), .val (.int r5), .val (.int r6), .val (.int r7), .val (.ref x8), .val (.ref x10), .val (.int (1 : Int32)), .unset] [])
        refine own_st (fun t_ k_ => XS.iload X10.here hx rfl (hb hby at_172) rfl k_) ?_
        show own_Go p e below _ T10 (mkF m 174 #[.val (.int le), .val (.int ff), .val (.int tt), .val (.int mo), .val (.int (0 : Int32)), .val (.int (0 : Int32)), .val (.int r2), .val (.int r3), .val (.int r4), .val (.int r5), .val (.int r6), .val (.int r7), .val (.ref x8), .val (.ref x10), .val (.int (1 : Int32)), .unset] [(.int (0 : Int32))])
        refine own_st (fun t_ k_ => XS.ifYes X10.here hx rfl (pc0 := 174) (pc' := 199) rfl (hb hby at_174) rfl (by decide) (by decide) (by decide) k_) ?_
        show own_Go p e below _ T10 (mkF m 199 #[.val (.int le), .val (.int ff), .val (.int tt), .val (.int mo), .val (.int (0 : Int32)), .val (.int (0 : Int32)), .val (.int r2), .val (.int r3), .val (.int r4), .val (.int r5), .val (.int r6), .val (.int r7), .val (.ref x8), .val (.ref x10), .val (.int (1 : Int32)), .unset] [])
        refine own_st (fun t_ k_ => XS.iload X10.here hx rfl (hb hby at_199) rfl k_) ?_
        show own_Go p e below _ T10 (mkF m 201 #[.val (.int le), .val (.int ff), .val (.int tt), .val (.int mo), .val (.int (0 : Int32)), .val (.int (0 : Int32)), .val (.int r2), .val (.int r3), .val (.int r4), .val (.int r5), .val (.int r6), .val (.int r7), .val (.ref x8), .val (.ref x10), .val (.int (1 : Int32)), .unset] [(.int (0 : Int32))])
        refine own_st (fun t_ k_ => XS.iconst X10.here hx rfl (hb hby at_201) k_) ?_
        show own_Go p e below _ T10 (mkF m 202 #[.val (.int le), .val (.int ff), .val (.int tt), .val (.int mo), .val (.int (0 : Int32)), .val (.int (0 : Int32)), .val (.int r2), .val (.int r3), .val (.int r4), .val (.int r5), .val (.int r6), .val (.int r7), .val (.ref x8), .val (.ref x10), .val (.int (1 : Int32)), .unset] [(.int (1 : Int32)), (.int (0 : Int32))])
        refine own_st (fun t_ k_ => XS.icmpYes X10.here hx rfl (pc0 := 202) (pc' := 227) rfl (hb hby at_202) rfl (by decide) (by decide) (by decide) k_) ?_
        show own_Go p e below _ T10 (mkF m 227 #[.val (.int le), .val (.int ff), .val (.int tt), .val (.int mo), .val (.int (0 : Int32)), .val (.int (0 : Int32)), .val (.int r2), .val (.int r3), .val (.int r4), .val (.int r5), .val (.int r6), .val (.int r7), .val (.ref x8), .val (.ref x10), .val (.int (1 : Int32)), .unset] [])
        refine own_st (fun t_ k_ => XS.iload X10.here hx rfl (hb hby at_227) rfl k_) ?_
        show own_Go p e below _ T10 (mkF m 229 #[.val (.int le), .val (.int ff), .val (.int tt), .val (.int mo), .val (.int (0 : Int32)), .val (.int (0 : Int32)), .val (.int r2), .val (.int r3), .val (.int r4), .val (.int r5), .val (.int r6), .val (.int r7), .val (.ref x8), .val (.ref x10), .val (.int (1 : Int32)), .unset] [(.int (0 : Int32))])
        refine own_st (fun t_ k_ => XS.iconst X10.here hx rfl (hb hby at_229) k_) ?_
        show own_Go p e below _ T10 (mkF m 230 #[.val (.int le), .val (.int ff), .val (.int tt), .val (.int mo), .val (.int (0 : Int32)), .val (.int (0 : Int32)), .val (.int r2), .val (.int r3), .val (.int r4), .val (.int r5), .val (.int r6), .val (.int r7), .val (.ref x8), .val (.ref x10), .val (.int (1 : Int32)), .unset] [(.int (2 : Int32)), (.int (0 : Int32))])
        refine own_st (fun t_ k_ => XS.icmpYes X10.here hx rfl (pc0 := 230) (pc' := 255) rfl (hb hby at_230) rfl (by decide) (by decide) (by decide) k_) ?_
        show own_Go p e below _ T10 (mkF m 255 #[.val (.int le), .val (.int ff), .val (.int tt), .val (.int mo), .val (.int (0 : Int32)), .val (.int (0 : Int32)), .val (.int r2), .val (.int r3), .val (.int r4), .val (.int r5), .val (.int r6), .val (.int r7), .val (.ref x8), .val (.ref x10), .val (.int (1 : Int32)), .unset] [])
        obtain ⟨T49, h49, X49, e49, E49, A49, D49, cel49, st49⟩ := newO X10 hx hZ hown (hw _ (List.mem_of_getElem? (i := 32) rfl)) (hw _ (List.mem_of_getElem? (i := 33) rfl)) (hw _ (List.mem_of_getElem? (i := 34) rfl)) rfl (g := (mkF m 255 #[.val (.int le), .val (.int ff), .val (.int tt), .val (.int mo), .val (.int (0 : Int32)), .val (.int (0 : Int32)), .val (.int r2), .val (.int r3), .val (.int r4), .val (.int r5), .val (.int r6), .val (.int r7), .val (.ref x8), .val (.ref x10), .val (.int (1 : Int32)), .unset] [])) rfl (hb hby at_255) (by decide) (by decide)
        obtain ⟨nb49, g49⟩ : ∃ z, z = T10.heap.size := ⟨_, rfl⟩
        rw [← g49] at A49 D49 cel49 st49
        refine own_st st49 ?_
        have g_nb49 : n0 ≤ nb49 := Nat.le_trans (Nat.le_trans Z0 K10.1) (Nat.le_of_eq g49.symm)
        have K49 : Keep h0 h49 [] := K10.ext E49
        have sz_nb49 : h0.size ≤ nb49 := Nat.le_trans K10.1 (Nat.le_of_eq g49.symm)
        have B49 := own_Bk.ext E49 B10
        have Sf49 := Safe.ext E49 (own_Bk.ch B10) (Safe.new (Nat.le_of_eq g49.symm))
        have F49_form : Fld Z h49 nb49 "com/example/hebelwerk/hebelwerk/io/FixedForm" "form" "Ljava/lang/String;" .null := D49 (Or.inr (hw _ (List.mem_of_getElem? (i := 40) rfl))) (ty := (.object "java/lang/String")) (by decide)
        show own_Go p e below _ T49 (mkF m 258 #[.val (.int le), .val (.int ff), .val (.int tt), .val (.int mo), .val (.int (0 : Int32)), .val (.int (0 : Int32)), .val (.int r2), .val (.int r3), .val (.int r4), .val (.int r5), .val (.int r6), .val (.int r7), .val (.ref x8), .val (.ref x10), .val (.int (1 : Int32)), .unset] [(.ref nb49)])
        refine own_st (fun t_ k_ => XS.dup X49.here hx rfl (hb hby at_258) rfl rfl k_) ?_
        show own_Go p e below _ T49 (mkF m 259 #[.val (.int le), .val (.int ff), .val (.int tt), .val (.int mo), .val (.int (0 : Int32)), .val (.int (0 : Int32)), .val (.int r2), .val (.int r3), .val (.int r4), .val (.int r5), .val (.int r6), .val (.int r7), .val (.ref x8), .val (.ref x10), .val (.int (1 : Int32)), .unset] [(.ref nb49), (.ref nb49)])
        refine own_st (fun t_ k_ => XS.aload X49.here hx rfl (hb hby at_259) rfl rfl k_) ?_
        show own_Go p e below _ T49 (mkF m 261 #[.val (.int le), .val (.int ff), .val (.int tt), .val (.int mo), .val (.int (0 : Int32)), .val (.int (0 : Int32)), .val (.int r2), .val (.int r3), .val (.int r4), .val (.int r5), .val (.int r6), .val (.int r7), .val (.ref x8), .val (.ref x10), .val (.int (1 : Int32)), .unset] [(.ref x8), (.ref nb49), (.ref nb49)])
        refine own_callN X49 hx (y := (⟨"com/example/hebelwerk/hebelwerk/io/FixedForm", "<init>", "(Ljava/lang/String;)V"⟩ : MethodName)) rfl hown (mvT hZ (hw _ (List.mem_of_getElem? (i := 35) rfl))) (mvT hZ (hw _ (List.mem_of_getElem? (i := 36) rfl))) (mvT hZ (hw _ (List.mem_of_getElem? (i := 37) rfl))) (by decide) (backOf (W := 1) (rmCI l Z a0 hw [] nb49 x8 h49 n0 (Nat.le_trans Z0 K49.1) g_nb49 A49 F49_form) hZ (hw _ (List.mem_of_getElem? (i := 37) rfl)) (hw _ (List.mem_of_getElem? (i := 34) rfl)) (by decide) (by decide)) (a := nb49) (g := (mkF m 261 #[.val (.int le), .val (.int ff), .val (.int tt), .val (.int mo), .val (.int (0 : Int32)), .val (.int (0 : Int32)), .val (.int r2), .val (.int r3), .val (.int r4), .val (.int r5), .val (.int r6), .val (.int r7), .val (.ref x8), .val (.ref x10), .val (.int (1 : Int32)), .unset] [(.ref x8), (.ref nb49), (.ref nb49)])) rfl (by rw [hml]; rfl) (argsL := [(.ref x8)]) (rest := [(.ref nb49)]) (lenOf pd_8 rfl) rfl (by show 2 * 0 + _ ≤ _; exact Nat.le_of_eq rfl) (hb hby at_261) rfl e49 (by decide) (by decide) ?_
        rintro v50 T50 L50 X50 ⟨rfl, Nq50, Kq50, Eq50, Fk50⟩
        have N50 := Fr.app N10 Nq50
        have K50 : Keep h0 T50.heap [] := K49.trans Kq50 (allS (Or.inr sz_nb49) all0)
        have B50 := own_Bk.keep Kq50 (sfS Sf49 sf0) B49
        show own_Go p e below _ T50 (mkF m 264 #[.val (.int le), .val (.int ff), .val (.int tt), .val (.int mo), .val (.int (0 : Int32)), .val (.int (0 : Int32)), .val (.int r2), .val (.int r3), .val (.int r4), .val (.int r5), .val (.int r6), .val (.int r7), .val (.ref x8), .val (.ref x10), .val (.int (1 : Int32)), .unset] [(.ref nb49)])
        refine own_st (fun t_ k_ => XS.aload X50.here hx rfl (hb hby at_264) rfl rfl k_) ?_
        show own_Go p e below _ T50 (mkF m 266 #[.val (.int le), .val (.int ff), .val (.int tt), .val (.int mo), .val (.int (0 : Int32)), .val (.int (0 : Int32)), .val (.int r2), .val (.int r3), .val (.int r4), .val (.int r5), .val (.int r6), .val (.int r7), .val (.ref x8), .val (.ref x10), .val (.int (1 : Int32)), .unset] [(.ref x10), (.ref nb49)])
        have f51 := (f9.keep Kq10 all0)
        have f52 := (f51.ext E49)
        have f53 := (f52.keep Kq50 (allS g_nb49 all0))
        have f54 := (Ex8.keep Kq10)
        have f55 := (Exa.ext E49 f54)
        have f56 := (f55.keep Kq50)
        have f57 := (Cq8.keep Kq10 nin0)
        have f58 := (Fld.ext E49 f57)
        have ne59 : x8 ≠ nb49 := (Nat.ne_of_lt (Nat.lt_of_lt_of_le f54.lt (Nat.le_of_eq g49.symm)))
        have f60 := (f58.keep Kq50 (ninS ne59 nin0))
        have f61 := (Vq8.keep Kq10 nin0)
        have f62 := (Fld.ext E49 f61)
        have f63 := (f62.keep Kq50 (ninS ne59 nin0))
        have f64 := (Aq8.keep Kq10 nin0)
        have f65 := (f64.ext E49)
        have ne66 : t8 ≠ nb49 := (Nat.ne_of_lt (Nat.lt_of_lt_of_le f64.lt (Nat.le_of_eq g49.symm)))
        have f67 := (f65.keep Kq50 (ninS ne66 nin0))
        have f68 := (Exa.ext E49 Ex10)
        have f69 := (f68.keep Kq50)
        have f70 := (Fld.ext E49 Cq10)
        have ne71 : x10 ≠ nb49 := (Nat.ne_of_lt (Nat.lt_of_lt_of_le Ex10.lt (Nat.le_of_eq g49.symm)))
        have f72 := (f70.keep Kq50 (ninS ne71 nin0))
        have f73 := (Fld.ext E49 Vq10)
        have f74 := (f73.keep Kq50 (ninS ne71 nin0))
        have f75 := (Aq10.ext E49)
        have ne76 : t10 ≠ nb49 := (Nat.ne_of_lt (Nat.lt_of_lt_of_le Aq10.lt (Nat.le_of_eq g49.symm)))
        have f77 := (f75.keep Kq50 (ninS ne76 nin0))
        obtain ⟨cq79, kq79, q79a, q79b, q79c⟩ := isOf hZ rfl Eq50
        refine own_callV X50 hx (y := (⟨"com/example/hebelwerk/hebelwerk/io/FixedForm", "matches", "(Ljava/lang/String;)Z"⟩ : MethodName)) (z := (⟨"com/example/hebelwerk/hebelwerk/io/FixedForm", "matches", "(Ljava/lang/String;)Z"⟩ : MethodName)) hown (mvT hZ (hw _ (List.mem_of_getElem? (i := 41) rfl))) (mvT hZ (hw _ (List.mem_of_getElem? (i := 42) rfl))) (notFace_of_selects (args := #[]) (mvT hZ (hw _ (List.mem_of_getElem? (i := 44) rfl)))) (mvT hZ (hw _ (List.mem_of_getElem? (i := 44) rfl))) (mvT hZ (hw _ (List.mem_of_getElem? (i := 43) rfl))) (by decide) (backOf (W := 0) (rmM0 l Z a0 hw [] nb49 x8 t8 x10 t10 kb8 kb10 (own_str (0 : Int32) [r2, r3, r4]) (own_str (0 : Int32) [r5, r6, r7]) G fm (1 : Int32) T50.heap n0 (Nat.le_trans Z0 K50.1) SC hCS f53 SF rG Eq50 Fk50 f56 f60 f63 f67 hp8 (own_strl (0 : Int32) r2 r3 r4) f69 f72 f74 f77 hp10 (own_strl (0 : Int32) r5 r6 r7) rfl rfl rfl) hZ (hw _ (List.mem_of_getElem? (i := 45) rfl)) (hw _ (List.mem_of_getElem? (i := 34) rfl)) (by decide) (by decide)) q79a q79c (g := (mkF m 266 #[.val (.int le), .val (.int ff), .val (.int tt), .val (.int mo), .val (.int (0 : Int32)), .val (.int (0 : Int32)), .val (.int r2), .val (.int r3), .val (.int r4), .val (.int r5), .val (.int r6), .val (.int r7), .val (.ref x8), .val (.ref x10), .val (.int (1 : Int32)), .unset] [(.ref x10), (.ref nb49)])) rfl (by rw [hml]; rfl) (argsL := [(.ref x10)]) (rest := []) (lenOf pd_9 rfl) rfl (by show 2 * 0 + _ ≤ _; exact Nat.le_of_eq rfl) (hb hby at_266) rfl rfl (by decide) (by decide) ?_
        rintro v78 T78 L78 X78 ⟨rfl, Nq78, hh78⟩
        have N78 := Fr.app N50 Nq78
        show own_Go p e below _ T78 (mkF m 269 #[.val (.int le), .val (.int ff), .val (.int tt), .val (.int mo), .val (.int (0 : Int32)), .val (.int (0 : Int32)), .val (.int r2), .val (.int r3), .val (.int r4), .val (.int r5), .val (.int r6), .val (.int r7), .val (.ref x8), .val (.ref x10), .val (.int (1 : Int32)), .unset] [(.int (1 : Int32))])
        refine own_st (fun t_ k_ => XS.istore X78.here hx rfl (hb hby at_269) rfl (l' := #[.val (.int le), .val (.int ff), .val (.int tt), .val (.int mo), .val (.int (0 : Int32)), .val (.int (0 : Int32)), .val (.int r2), .val (.int r3), .val (.int r4), .val (.int r5), .val (.int r6), .val (.int r7), .val (.ref x8), .val (.ref x10), .val (.int (1 : Int32)), .val (.int (1 : Int32))]) rfl k_) ?_
        show own_Go p e below _ T78 (mkF m 271 #[.val (.int le), .val (.int ff), .val (.int tt), .val (.int mo), .val (.int (0 : Int32)), .val (.int (0 : Int32)), .val (.int r2), .val (.int r3), .val (.int r4), .val (.int r5), .val (.int r6), .val (.int r7), .val (.ref x8), .val (.ref x10), .val (.int (1 : Int32)), .val (.int (1 : Int32))] [])
        refine own_st (fun t_ k_ => XS.iload X78.here hx rfl (hb hby at_271) rfl k_) ?_
        show own_Go p e below _ T78 (mkF m 273 #[.val (.int le), .val (.int ff), .val (.int tt), .val (.int mo), .val (.int (0 : Int32)), .val (.int (0 : Int32)), .val (.int r2), .val (.int r3), .val (.int r4), .val (.int r5), .val (.int r6), .val (.int r7), .val (.ref x8), .val (.ref x10), .val (.int (1 : Int32)), .val (.int (1 : Int32))] [(.int (1 : Int32))])
        refine own_st (fun t_ k_ => XS.iload X78.here hx rfl (hb hby at_273) rfl k_) ?_
        show own_Go p e below _ T78 (mkF m 275 #[.val (.int le), .val (.int ff), .val (.int tt), .val (.int mo), .val (.int (0 : Int32)), .val (.int (0 : Int32)), .val (.int r2), .val (.int r3), .val (.int r4), .val (.int r5), .val (.int r6), .val (.int r7), .val (.ref x8), .val (.ref x10), .val (.int (1 : Int32)), .val (.int (1 : Int32))] [(.int (1 : Int32)), (.int (1 : Int32))])
        refine own_st (fun t_ k_ => XS.icmpNo X78.here hx rfl (hb hby at_275) rfl (by decide) k_) ?_
        show own_Go p e below _ T78 (mkF m 278 #[.val (.int le), .val (.int ff), .val (.int tt), .val (.int mo), .val (.int (0 : Int32)), .val (.int (0 : Int32)), .val (.int r2), .val (.int r3), .val (.int r4), .val (.int r5), .val (.int r6), .val (.int r7), .val (.ref x8), .val (.ref x10), .val (.int (1 : Int32)), .val (.int (1 : Int32))] [])
        refine own_st (fun t_ k_ => XS.iconst X78.here hx rfl (hb hby at_278) k_) ?_
        show own_Go p e below _ T78 (mkF m 279 #[.val (.int le), .val (.int ff), .val (.int tt), .val (.int mo), .val (.int (0 : Int32)), .val (.int (0 : Int32)), .val (.int r2), .val (.int r3), .val (.int r4), .val (.int r5), .val (.int r6), .val (.int r7), .val (.ref x8), .val (.ref x10), .val (.int (1 : Int32)), .val (.int (1 : Int32))] [(.int (1 : Int32))])
        refine own_st (fun t_ k_ => XS.goto X78.here hx rfl (pc0 := 279) (pc' := 283) rfl (hb hby at_279) (by decide) (by decide) k_) ?_
        show own_Go p e below _ T78 (mkF m 283 #[.val (.int le), .val (.int ff), .val (.int tt), .val (.int mo), .val (.int (0 : Int32)), .val (.int (0 : Int32)), .val (.int r2), .val (.int r3), .val (.int r4), .val (.int r5), .val (.int r6), .val (.int r7), .val (.ref x8), .val (.ref x10), .val (.int (1 : Int32)), .val (.int (1 : Int32))] [(.int (1 : Int32))])
        refine own_retNS X78 hx hlk hZ hEL hh78 hh B50 (t := .boolean) Bd.returns (by simp) (hb hby at_283) ?_ (by decide) (by decide)
        show Q0 n0 _ T78.heap _
        rw [hh78]
        exact ⟨rfl, N78⟩
      · show own_Go p e below _ T10 (mkF m 165 #[.val (.int le), .val (.int ff), .val (.int tt), .val (.int mo), .val (.int (1 : Int32)), .val (.int (1 : Int32)), .val (.int r2), .val (.int r3), .val (.int r4), .val (.int r5), .val (.int r6), .val (.int r7), .val (.ref x8), .val (.ref x10), .unset, .unset] [])
        refine own_st (fun t_ k_ => XS.iconst X10.here hx rfl (hb hby at_165) k_) ?_
        show own_Go p e below _ T10 (mkF m 166 #[.val (.int le), .val (.int ff), .val (.int tt), .val (.int mo), .val (.int (1 : Int32)), .val (.int (1 : Int32)), .val (.int r2), .val (.int r3), .val (.int r4), .val (.int r5), .val (.int r6), .val (.int r7), .val (.ref x8), .val (.ref x10), .unset, .unset] [(.int (1 : Int32))])
        refine own_st (fun t_ k_ => XS.goto X10.here hx rfl (pc0 := 166) (pc' := 170) rfl (hb hby at_166) (by decide) (by decide) k_) ?_
        show own_Go p e below _ T10 (mkF m 170 #[.val (.int le), .val (.int ff), .val (.int tt), .val (.int mo), .val (.int (1 : Int32)), .val (.int (1 : Int32)), .val (.int r2), .val (.int r3), .val (.int r4), .val (.int r5), .val (.int r6), .val (.int r7), .val (.ref x8), .val (.ref x10), .unset, .unset] [(.int (1 : Int32))])
        refine own_st (fun t_ k_ => XS.istore X10.here hx rfl (hb hby at_170) rfl (l' := #[.val (.int le), .val (.int ff), .val (.int tt), .val (.int mo), .val (.int (1 : Int32)), .val (.int (1 : Int32)), .val (.int r2), .val (.int r3), .val (.int r4), .val (.int r5), .val (.int r6), .val (.int r7), .val (.ref x8), .val (.ref x10), .val (.int (1 : Int32)), .unset]) rfl k_) ?_
        show own_Go p e below _ T10 (mkF m 172 #[.val (.int le), .val (.int ff), .val (.int tt), .val (.int mo), .val (.int (1 : Int32)), .val (.int (1 : Int32)), .val (.int r2), .val (.int r3), .val (.int r4), .val (.int r5), .val (.int r6), .val (.int r7), .val (.ref x8), .val (.ref x10), .val (.int (1 : Int32)), .unset] [])
        refine own_st (fun t_ k_ => XS.iload X10.here hx rfl (hb hby at_172) rfl k_) ?_
        show own_Go p e below _ T10 (mkF m 174 #[.val (.int le), .val (.int ff), .val (.int tt), .val (.int mo), .val (.int (1 : Int32)), .val (.int (1 : Int32)), .val (.int r2), .val (.int r3), .val (.int r4), .val (.int r5), .val (.int r6), .val (.int r7), .val (.ref x8), .val (.ref x10), .val (.int (1 : Int32)), .unset] [(.int (1 : Int32))])
        refine own_st (fun t_ k_ => XS.ifNo X10.here hx rfl (hb hby at_174) rfl (by decide) k_) ?_
        show own_Go p e below _ T10 (mkF m 177 #[.val (.int le), .val (.int ff), .val (.int tt), .val (.int mo), .val (.int (1 : Int32)), .val (.int (1 : Int32)), .val (.int r2), .val (.int r3), .val (.int r4), .val (.int r5), .val (.int r6), .val (.int r7), .val (.ref x8), .val (.ref x10), .val (.int (1 : Int32)), .unset] [])
        refine own_st (fun t_ k_ => XS.iload X10.here hx rfl (hb hby at_177) rfl k_) ?_
        show own_Go p e below _ T10 (mkF m 179 #[.val (.int le), .val (.int ff), .val (.int tt), .val (.int mo), .val (.int (1 : Int32)), .val (.int (1 : Int32)), .val (.int r2), .val (.int r3), .val (.int r4), .val (.int r5), .val (.int r6), .val (.int r7), .val (.ref x8), .val (.ref x10), .val (.int (1 : Int32)), .unset] [(.int (1 : Int32))])
        refine own_st (fun t_ k_ => XS.ifNo X10.here hx rfl (hb hby at_179) rfl (by decide) k_) ?_
        show own_Go p e below _ T10 (mkF m 182 #[.val (.int le), .val (.int ff), .val (.int tt), .val (.int mo), .val (.int (1 : Int32)), .val (.int (1 : Int32)), .val (.int r2), .val (.int r3), .val (.int r4), .val (.int r5), .val (.int r6), .val (.int r7), .val (.ref x8), .val (.ref x10), .val (.int (1 : Int32)), .unset] [])
        refine own_st (fun t_ k_ => XS.iload X10.here hx rfl (hb hby at_182) rfl k_) ?_
        show own_Go p e below _ T10 (mkF m 184 #[.val (.int le), .val (.int ff), .val (.int tt), .val (.int mo), .val (.int (1 : Int32)), .val (.int (1 : Int32)), .val (.int r2), .val (.int r3), .val (.int r4), .val (.int r5), .val (.int r6), .val (.int r7), .val (.ref x8), .val (.ref x10), .val (.int (1 : Int32)), .unset] [(.int r2)])
        refine own_st (fun t_ k_ => XS.iload X10.here hx rfl (hb hby at_184) rfl k_) ?_
        show own_Go p e below _ T10 (mkF m 186 #[.val (.int le), .val (.int ff), .val (.int tt), .val (.int mo), .val (.int (1 : Int32)), .val (.int (1 : Int32)), .val (.int r2), .val (.int r3), .val (.int r4), .val (.int r5), .val (.int r6), .val (.int r7), .val (.ref x8), .val (.ref x10), .val (.int (1 : Int32)), .unset] [(.int r5), (.int r2)])
        refine own_callS X10 hx (y := (⟨"com/example/hebelwerk/hebelwerk/io/FixedFormMatchesPinLaw", "fits", "(CC)Z"⟩ : MethodName)) hown (mvT hZ (hw _ (List.mem_of_getElem? (i := 67) rfl))) (mvT hZ (hw _ (List.mem_of_getElem? (i := 68) rfl))) (mvT hZ (hw _ (List.mem_of_getElem? (i := 2) rfl))) (mvT hZ (hw _ (List.mem_of_getElem? (i := 69) rfl))) (by decide) (backOf (W := 0) (rmFI l Z a0 hw [] r2 r5 T10.heap n0 (Nat.le_trans Z0 K10.1)) hZ (hw _ (List.mem_of_getElem? (i := 69) rfl)) (hw _ (List.mem_of_getElem? (i := 2) rfl)) (by decide) (by decide)) (g := (mkF m 186 #[.val (.int le), .val (.int ff), .val (.int tt), .val (.int mo), .val (.int (1 : Int32)), .val (.int (1 : Int32)), .val (.int r2), .val (.int r3), .val (.int r4), .val (.int r5), .val (.int r6), .val (.int r7), .val (.ref x8), .val (.ref x10), .val (.int (1 : Int32)), .unset] [(.int r5), (.int r2)])) rfl (by rw [hml]; rfl) (argsL := [(.int r2), (.int r5)]) (rest := []) (lenOf pd_10 rfl) rfl (by show 2 * 0 + _ ≤ _; exact Nat.le_of_eq rfl) (hb hby at_186) rfl rfl (by decide) (by decide) ?_
        rintro v80 T80 L80 X80 ⟨rfl, Nq80, hh80⟩
        have N80 := Fr.app N10 Nq80
        show own_Go p e below _ T80 (mkF m 189 #[.val (.int le), .val (.int ff), .val (.int tt), .val (.int mo), .val (.int (1 : Int32)), .val (.int (1 : Int32)), .val (.int r2), .val (.int r3), .val (.int r4), .val (.int r5), .val (.int r6), .val (.int r7), .val (.ref x8), .val (.ref x10), .val (.int (1 : Int32)), .unset] [(.int (own_fits r2 r5))])
        by_cases hz81 : (own_fits r2 r5) = (0 : Int32)
        · refine own_st (fun t_ k_ => XS.ifYes X80.here hx rfl (pc0 := 189) (pc' := 196) rfl (hb hby at_189) rfl ((if0 _ _).trans (teq hz81).1) (by decide) (by decide) k_) ?_
          show own_Go p e below _ T80 (mkF m 196 #[.val (.int le), .val (.int ff), .val (.int tt), .val (.int mo), .val (.int (1 : Int32)), .val (.int (1 : Int32)), .val (.int r2), .val (.int r3), .val (.int r4), .val (.int r5), .val (.int r6), .val (.int r7), .val (.ref x8), .val (.ref x10), .val (.int (1 : Int32)), .unset] [])
          refine own_st (fun t_ k_ => XS.iconst X80.here hx rfl (hb hby at_196) k_) ?_
          show own_Go p e below _ T80 (mkF m 197 #[.val (.int le), .val (.int ff), .val (.int tt), .val (.int mo), .val (.int (1 : Int32)), .val (.int (1 : Int32)), .val (.int r2), .val (.int r3), .val (.int r4), .val (.int r5), .val (.int r6), .val (.int r7), .val (.ref x8), .val (.ref x10), .val (.int (1 : Int32)), .unset] [(.int (0 : Int32))])
          refine own_st (fun t_ k_ => XS.istore X80.here hx rfl (hb hby at_197) rfl (l' := #[.val (.int le), .val (.int ff), .val (.int tt), .val (.int mo), .val (.int (1 : Int32)), .val (.int (1 : Int32)), .val (.int r2), .val (.int r3), .val (.int r4), .val (.int r5), .val (.int r6), .val (.int r7), .val (.ref x8), .val (.ref x10), .val (.int (0 : Int32)), .unset]) rfl k_) ?_
          show own_Go p e below _ T80 (mkF m 199 #[.val (.int le), .val (.int ff), .val (.int tt), .val (.int mo), .val (.int (1 : Int32)), .val (.int (1 : Int32)), .val (.int r2), .val (.int r3), .val (.int r4), .val (.int r5), .val (.int r6), .val (.int r7), .val (.ref x8), .val (.ref x10), .val (.int (0 : Int32)), .unset] [])
          refine own_st (fun t_ k_ => XS.iload X80.here hx rfl (hb hby at_199) rfl k_) ?_
          show own_Go p e below _ T80 (mkF m 201 #[.val (.int le), .val (.int ff), .val (.int tt), .val (.int mo), .val (.int (1 : Int32)), .val (.int (1 : Int32)), .val (.int r2), .val (.int r3), .val (.int r4), .val (.int r5), .val (.int r6), .val (.int r7), .val (.ref x8), .val (.ref x10), .val (.int (0 : Int32)), .unset] [(.int (1 : Int32))])
          refine own_st (fun t_ k_ => XS.iconst X80.here hx rfl (hb hby at_201) k_) ?_
          show own_Go p e below _ T80 (mkF m 202 #[.val (.int le), .val (.int ff), .val (.int tt), .val (.int mo), .val (.int (1 : Int32)), .val (.int (1 : Int32)), .val (.int r2), .val (.int r3), .val (.int r4), .val (.int r5), .val (.int r6), .val (.int r7), .val (.ref x8), .val (.ref x10), .val (.int (0 : Int32)), .unset] [(.int (1 : Int32)), (.int (1 : Int32))])
          refine own_st (fun t_ k_ => XS.icmpYes X80.here hx rfl (pc0 := 202) (pc' := 227) rfl (hb hby at_202) rfl (by decide) (by decide) (by decide) k_) ?_
          show own_Go p e below _ T80 (mkF m 227 #[.val (.int le), .val (.int ff), .val (.int tt), .val (.int mo), .val (.int (1 : Int32)), .val (.int (1 : Int32)), .val (.int r2), .val (.int r3), .val (.int r4), .val (.int r5), .val (.int r6), .val (.int r7), .val (.ref x8), .val (.ref x10), .val (.int (0 : Int32)), .unset] [])
          refine own_st (fun t_ k_ => XS.iload X80.here hx rfl (hb hby at_227) rfl k_) ?_
          show own_Go p e below _ T80 (mkF m 229 #[.val (.int le), .val (.int ff), .val (.int tt), .val (.int mo), .val (.int (1 : Int32)), .val (.int (1 : Int32)), .val (.int r2), .val (.int r3), .val (.int r4), .val (.int r5), .val (.int r6), .val (.int r7), .val (.ref x8), .val (.ref x10), .val (.int (0 : Int32)), .unset] [(.int (1 : Int32))])
          refine own_st (fun t_ k_ => XS.iconst X80.here hx rfl (hb hby at_229) k_) ?_
          show own_Go p e below _ T80 (mkF m 230 #[.val (.int le), .val (.int ff), .val (.int tt), .val (.int mo), .val (.int (1 : Int32)), .val (.int (1 : Int32)), .val (.int r2), .val (.int r3), .val (.int r4), .val (.int r5), .val (.int r6), .val (.int r7), .val (.ref x8), .val (.ref x10), .val (.int (0 : Int32)), .unset] [(.int (2 : Int32)), (.int (1 : Int32))])
          refine own_st (fun t_ k_ => XS.icmpYes X80.here hx rfl (pc0 := 230) (pc' := 255) rfl (hb hby at_230) rfl (by decide) (by decide) (by decide) k_) ?_
          show own_Go p e below _ T80 (mkF m 255 #[.val (.int le), .val (.int ff), .val (.int tt), .val (.int mo), .val (.int (1 : Int32)), .val (.int (1 : Int32)), .val (.int r2), .val (.int r3), .val (.int r4), .val (.int r5), .val (.int r6), .val (.int r7), .val (.ref x8), .val (.ref x10), .val (.int (0 : Int32)), .unset] [])
          obtain ⟨T82, h82, X82, e82, E82, A82, D82, cel82, st82⟩ := newO X80 hx hZ hown (hw _ (List.mem_of_getElem? (i := 32) rfl)) (hw _ (List.mem_of_getElem? (i := 33) rfl)) (hw _ (List.mem_of_getElem? (i := 34) rfl)) hh80 (g := (mkF m 255 #[.val (.int le), .val (.int ff), .val (.int tt), .val (.int mo), .val (.int (1 : Int32)), .val (.int (1 : Int32)), .val (.int r2), .val (.int r3), .val (.int r4), .val (.int r5), .val (.int r6), .val (.int r7), .val (.ref x8), .val (.ref x10), .val (.int (0 : Int32)), .unset] [])) rfl (hb hby at_255) (by decide) (by decide)
          obtain ⟨nb82, g82⟩ : ∃ z, z = T10.heap.size := ⟨_, rfl⟩
          rw [← g82] at A82 D82 cel82 st82
          refine own_st st82 ?_
          have g_nb82 : n0 ≤ nb82 := Nat.le_trans (Nat.le_trans Z0 K10.1) (Nat.le_of_eq g82.symm)
          have K82 : Keep h0 h82 [] := K10.ext E82
          have sz_nb82 : h0.size ≤ nb82 := Nat.le_trans K10.1 (Nat.le_of_eq g82.symm)
          have B82 := own_Bk.ext E82 B10
          have Sf82 := Safe.ext E82 (own_Bk.ch B10) (Safe.new (Nat.le_of_eq g82.symm))
          have F82_form : Fld Z h82 nb82 "com/example/hebelwerk/hebelwerk/io/FixedForm" "form" "Ljava/lang/String;" .null := D82 (Or.inr (hw _ (List.mem_of_getElem? (i := 40) rfl))) (ty := (.object "java/lang/String")) (by decide)
          show own_Go p e below _ T82 (mkF m 258 #[.val (.int le), .val (.int ff), .val (.int tt), .val (.int mo), .val (.int (1 : Int32)), .val (.int (1 : Int32)), .val (.int r2), .val (.int r3), .val (.int r4), .val (.int r5), .val (.int r6), .val (.int r7), .val (.ref x8), .val (.ref x10), .val (.int (0 : Int32)), .unset] [(.ref nb82)])
          refine own_st (fun t_ k_ => XS.dup X82.here hx rfl (hb hby at_258) rfl rfl k_) ?_
          show own_Go p e below _ T82 (mkF m 259 #[.val (.int le), .val (.int ff), .val (.int tt), .val (.int mo), .val (.int (1 : Int32)), .val (.int (1 : Int32)), .val (.int r2), .val (.int r3), .val (.int r4), .val (.int r5), .val (.int r6), .val (.int r7), .val (.ref x8), .val (.ref x10), .val (.int (0 : Int32)), .unset] [(.ref nb82), (.ref nb82)])
          refine own_st (fun t_ k_ => XS.aload X82.here hx rfl (hb hby at_259) rfl rfl k_) ?_
          show own_Go p e below _ T82 (mkF m 261 #[.val (.int le), .val (.int ff), .val (.int tt), .val (.int mo), .val (.int (1 : Int32)), .val (.int (1 : Int32)), .val (.int r2), .val (.int r3), .val (.int r4), .val (.int r5), .val (.int r6), .val (.int r7), .val (.ref x8), .val (.ref x10), .val (.int (0 : Int32)), .unset] [(.ref x8), (.ref nb82), (.ref nb82)])
          refine own_callN X82 hx (y := (⟨"com/example/hebelwerk/hebelwerk/io/FixedForm", "<init>", "(Ljava/lang/String;)V"⟩ : MethodName)) rfl hown (mvT hZ (hw _ (List.mem_of_getElem? (i := 35) rfl))) (mvT hZ (hw _ (List.mem_of_getElem? (i := 36) rfl))) (mvT hZ (hw _ (List.mem_of_getElem? (i := 37) rfl))) (by decide) (backOf (W := 1) (rmCI l Z a0 hw [] nb82 x8 h82 n0 (Nat.le_trans Z0 K82.1) g_nb82 A82 F82_form) hZ (hw _ (List.mem_of_getElem? (i := 37) rfl)) (hw _ (List.mem_of_getElem? (i := 34) rfl)) (by decide) (by decide)) (a := nb82) (g := (mkF m 261 #[.val (.int le), .val (.int ff), .val (.int tt), .val (.int mo), .val (.int (1 : Int32)), .val (.int (1 : Int32)), .val (.int r2), .val (.int r3), .val (.int r4), .val (.int r5), .val (.int r6), .val (.int r7), .val (.ref x8), .val (.ref x10), .val (.int (0 : Int32)), .unset] [(.ref x8), (.ref nb82), (.ref nb82)])) rfl (by rw [hml]; rfl) (argsL := [(.ref x8)]) (rest := [(.ref nb82)]) (lenOf pd_8 rfl) rfl (by show 2 * 0 + _ ≤ _; exact Nat.le_of_eq rfl) (hb hby at_261) rfl e82 (by decide) (by decide) ?_
          rintro v83 T83 L83 X83 ⟨rfl, Nq83, Kq83, Eq83, Fk83⟩
          have N83 := Fr.app N80 Nq83
          have K83 : Keep h0 T83.heap [] := K82.trans Kq83 (allS (Or.inr sz_nb82) all0)
          have B83 := own_Bk.keep Kq83 (sfS Sf82 sf0) B82
          show own_Go p e below _ T83 (mkF m 264 #[.val (.int le), .val (.int ff), .val (.int tt), .val (.int mo), .val (.int (1 : Int32)), .val (.int (1 : Int32)), .val (.int r2), .val (.int r3), .val (.int r4), .val (.int r5), .val (.int r6), .val (.int r7), .val (.ref x8), .val (.ref x10), .val (.int (0 : Int32)), .unset] [(.ref nb82)])
          refine own_st (fun t_ k_ => XS.aload X83.here hx rfl (hb hby at_264) rfl rfl k_) ?_
          show own_Go p e below _ T83 (mkF m 266 #[.val (.int le), .val (.int ff), .val (.int tt), .val (.int mo), .val (.int (1 : Int32)), .val (.int (1 : Int32)), .val (.int r2), .val (.int r3), .val (.int r4), .val (.int r5), .val (.int r6), .val (.int r7), .val (.ref x8), .val (.ref x10), .val (.int (0 : Int32)), .unset] [(.ref x10), (.ref nb82)])
          have f84 := (f9.keep Kq10 all0)
          have f85 := (f84.ext E82)
          have f86 := (f85.keep Kq83 (allS g_nb82 all0))
          have f87 := (Ex8.keep Kq10)
          have f88 := (Exa.ext E82 f87)
          have f89 := (f88.keep Kq83)
          have f90 := (Cq8.keep Kq10 nin0)
          have f91 := (Fld.ext E82 f90)
          have ne92 : x8 ≠ nb82 := (Nat.ne_of_lt (Nat.lt_of_lt_of_le f87.lt (Nat.le_of_eq g82.symm)))
          have f93 := (f91.keep Kq83 (ninS ne92 nin0))
          have f94 := (Vq8.keep Kq10 nin0)
          have f95 := (Fld.ext E82 f94)
          have f96 := (f95.keep Kq83 (ninS ne92 nin0))
          have f97 := (Aq8.keep Kq10 nin0)
          have f98 := (f97.ext E82)
          have ne99 : t8 ≠ nb82 := (Nat.ne_of_lt (Nat.lt_of_lt_of_le f97.lt (Nat.le_of_eq g82.symm)))
          have f100 := (f98.keep Kq83 (ninS ne99 nin0))
          have f101 := (Exa.ext E82 Ex10)
          have f102 := (f101.keep Kq83)
          have f103 := (Fld.ext E82 Cq10)
          have ne104 : x10 ≠ nb82 := (Nat.ne_of_lt (Nat.lt_of_lt_of_le Ex10.lt (Nat.le_of_eq g82.symm)))
          have f105 := (f103.keep Kq83 (ninS ne104 nin0))
          have f106 := (Fld.ext E82 Vq10)
          have f107 := (f106.keep Kq83 (ninS ne104 nin0))
          have f108 := (Aq10.ext E82)
          have ne109 : t10 ≠ nb82 := (Nat.ne_of_lt (Nat.lt_of_lt_of_le Aq10.lt (Nat.le_of_eq g82.symm)))
          have f110 := (f108.keep Kq83 (ninS ne109 nin0))
          obtain ⟨cq112, kq112, q112a, q112b, q112c⟩ := isOf hZ rfl Eq83
          refine own_callV X83 hx (y := (⟨"com/example/hebelwerk/hebelwerk/io/FixedForm", "matches", "(Ljava/lang/String;)Z"⟩ : MethodName)) (z := (⟨"com/example/hebelwerk/hebelwerk/io/FixedForm", "matches", "(Ljava/lang/String;)Z"⟩ : MethodName)) hown (mvT hZ (hw _ (List.mem_of_getElem? (i := 41) rfl))) (mvT hZ (hw _ (List.mem_of_getElem? (i := 42) rfl))) (notFace_of_selects (args := #[]) (mvT hZ (hw _ (List.mem_of_getElem? (i := 44) rfl)))) (mvT hZ (hw _ (List.mem_of_getElem? (i := 44) rfl))) (mvT hZ (hw _ (List.mem_of_getElem? (i := 43) rfl))) (by decide) (backOf (W := 0) (rmM1 l Z a0 hw [] nb82 x8 t8 x10 t10 kb8 kb10 (own_str (1 : Int32) [r2, r3, r4]) (own_str (1 : Int32) [r5, r6, r7]) G fm r2 r5 (0 : Int32) T83.heap n0 (Nat.le_trans Z0 K83.1) SC hCS f86 SF rG Eq83 Fk83 f89 f93 f96 f100 hp8 (own_strl (1 : Int32) r2 r3 r4) f102 f105 f107 f110 hp10 (own_strl (1 : Int32) r5 r6 r7) rfl rfl (by rw [if_pos hz81])) hZ (hw _ (List.mem_of_getElem? (i := 45) rfl)) (hw _ (List.mem_of_getElem? (i := 34) rfl)) (by decide) (by decide)) q112a q112c (g := (mkF m 266 #[.val (.int le), .val (.int ff), .val (.int tt), .val (.int mo), .val (.int (1 : Int32)), .val (.int (1 : Int32)), .val (.int r2), .val (.int r3), .val (.int r4), .val (.int r5), .val (.int r6), .val (.int r7), .val (.ref x8), .val (.ref x10), .val (.int (0 : Int32)), .unset] [(.ref x10), (.ref nb82)])) rfl (by rw [hml]; rfl) (argsL := [(.ref x10)]) (rest := []) (lenOf pd_9 rfl) rfl (by show 2 * 0 + _ ≤ _; exact Nat.le_of_eq rfl) (hb hby at_266) rfl rfl (by decide) (by decide) ?_
          rintro v111 T111 L111 X111 ⟨rfl, Nq111, hh111⟩
          have N111 := Fr.app N83 Nq111
          show own_Go p e below _ T111 (mkF m 269 #[.val (.int le), .val (.int ff), .val (.int tt), .val (.int mo), .val (.int (1 : Int32)), .val (.int (1 : Int32)), .val (.int r2), .val (.int r3), .val (.int r4), .val (.int r5), .val (.int r6), .val (.int r7), .val (.ref x8), .val (.ref x10), .val (.int (0 : Int32)), .unset] [(.int (0 : Int32))])
          refine own_st (fun t_ k_ => XS.istore X111.here hx rfl (hb hby at_269) rfl (l' := #[.val (.int le), .val (.int ff), .val (.int tt), .val (.int mo), .val (.int (1 : Int32)), .val (.int (1 : Int32)), .val (.int r2), .val (.int r3), .val (.int r4), .val (.int r5), .val (.int r6), .val (.int r7), .val (.ref x8), .val (.ref x10), .val (.int (0 : Int32)), .val (.int (0 : Int32))]) rfl k_) ?_
          show own_Go p e below _ T111 (mkF m 271 #[.val (.int le), .val (.int ff), .val (.int tt), .val (.int mo), .val (.int (1 : Int32)), .val (.int (1 : Int32)), .val (.int r2), .val (.int r3), .val (.int r4), .val (.int r5), .val (.int r6), .val (.int r7), .val (.ref x8), .val (.ref x10), .val (.int (0 : Int32)), .val (.int (0 : Int32))] [])
          refine own_st (fun t_ k_ => XS.iload X111.here hx rfl (hb hby at_271) rfl k_) ?_
          show own_Go p e below _ T111 (mkF m 273 #[.val (.int le), .val (.int ff), .val (.int tt), .val (.int mo), .val (.int (1 : Int32)), .val (.int (1 : Int32)), .val (.int r2), .val (.int r3), .val (.int r4), .val (.int r5), .val (.int r6), .val (.int r7), .val (.ref x8), .val (.ref x10), .val (.int (0 : Int32)), .val (.int (0 : Int32))] [(.int (0 : Int32))])
          refine own_st (fun t_ k_ => XS.iload X111.here hx rfl (hb hby at_273) rfl k_) ?_
          show own_Go p e below _ T111 (mkF m 275 #[.val (.int le), .val (.int ff), .val (.int tt), .val (.int mo), .val (.int (1 : Int32)), .val (.int (1 : Int32)), .val (.int r2), .val (.int r3), .val (.int r4), .val (.int r5), .val (.int r6), .val (.int r7), .val (.ref x8), .val (.ref x10), .val (.int (0 : Int32)), .val (.int (0 : Int32))] [(.int (0 : Int32)), (.int (0 : Int32))])
          refine own_st (fun t_ k_ => XS.icmpNo X111.here hx rfl (hb hby at_275) rfl (by decide) k_) ?_
          show own_Go p e below _ T111 (mkF m 278 #[.val (.int le), .val (.int ff), .val (.int tt), .val (.int mo), .val (.int (1 : Int32)), .val (.int (1 : Int32)), .val (.int r2), .val (.int r3), .val (.int r4), .val (.int r5), .val (.int r6), .val (.int r7), .val (.ref x8), .val (.ref x10), .val (.int (0 : Int32)), .val (.int (0 : Int32))] [])
          refine own_st (fun t_ k_ => XS.iconst X111.here hx rfl (hb hby at_278) k_) ?_
          show own_Go p e below _ T111 (mkF m 279 #[.val (.int le), .val (.int ff), .val (.int tt), .val (.int mo), .val (.int (1 : Int32)), .val (.int (1 : Int32)), .val (.int r2), .val (.int r3), .val (.int r4), .val (.int r5), .val (.int r6), .val (.int r7), .val (.ref x8), .val (.ref x10), .val (.int (0 : Int32)), .val (.int (0 : Int32))] [(.int (1 : Int32))])
          refine own_st (fun t_ k_ => XS.goto X111.here hx rfl (pc0 := 279) (pc' := 283) rfl (hb hby at_279) (by decide) (by decide) k_) ?_
          show own_Go p e below _ T111 (mkF m 283 #[.val (.int le), .val (.int ff), .val (.int tt), .val (.int mo), .val (.int (1 : Int32)), .val (.int (1 : Int32)), .val (.int r2), .val (.int r3), .val (.int r4), .val (.int r5), .val (.int r6), .val (.int r7), .val (.ref x8), .val (.ref x10), .val (.int (0 : Int32)), .val (.int (0 : Int32))] [(.int (1 : Int32))])
          refine own_retNS X111 hx hlk hZ hEL hh111 hh B83 (t := .boolean) Bd.returns (by simp) (hb hby at_283) ?_ (by decide) (by decide)
          show Q0 n0 _ T111.heap _
          rw [hh111]
          exact ⟨rfl, N111⟩
        · refine own_st (fun t_ k_ => XS.ifNo X80.here hx rfl (hb hby at_189) rfl ((if0 _ _).trans (feq hz81).1) k_) ?_
          show own_Go p e below _ T80 (mkF m 192 #[.val (.int le), .val (.int ff), .val (.int tt), .val (.int mo), .val (.int (1 : Int32)), .val (.int (1 : Int32)), .val (.int r2), .val (.int r3), .val (.int r4), .val (.int r5), .val (.int r6), .val (.int r7), .val (.ref x8), .val (.ref x10), .val (.int (1 : Int32)), .unset] [])
          refine own_st (fun t_ k_ => XS.iconst X80.here hx rfl (hb hby at_192) k_) ?_
          show own_Go p e below _ T80 (mkF m 193 #[.val (.int le), .val (.int ff), .val (.int tt), .val (.int mo), .val (.int (1 : Int32)), .val (.int (1 : Int32)), .val (.int r2), .val (.int r3), .val (.int r4), .val (.int r5), .val (.int r6), .val (.int r7), .val (.ref x8), .val (.ref x10), .val (.int (1 : Int32)), .unset] [(.int (1 : Int32))])
          refine own_st (fun t_ k_ => XS.goto X80.here hx rfl (pc0 := 193) (pc' := 197) rfl (hb hby at_193) (by decide) (by decide) k_) ?_
          show own_Go p e below _ T80 (mkF m 197 #[.val (.int le), .val (.int ff), .val (.int tt), .val (.int mo), .val (.int (1 : Int32)), .val (.int (1 : Int32)), .val (.int r2), .val (.int r3), .val (.int r4), .val (.int r5), .val (.int r6), .val (.int r7), .val (.ref x8), .val (.ref x10), .val (.int (1 : Int32)), .unset] [(.int (1 : Int32))])
          refine own_st (fun t_ k_ => XS.istore X80.here hx rfl (hb hby at_197) rfl (l' := #[.val (.int le), .val (.int ff), .val (.int tt), .val (.int mo), .val (.int (1 : Int32)), .val (.int (1 : Int32)), .val (.int r2), .val (.int r3), .val (.int r4), .val (.int r5), .val (.int r6), .val (.int r7), .val (.ref x8), .val (.ref x10), .val (.int (1 : Int32)), .unset]) rfl k_) ?_
          show own_Go p e below _ T80 (mkF m 199 #[.val (.int le), .val (.int ff), .val (.int tt), .val (.int mo), .val (.int (1 : Int32)), .val (.int (1 : Int32)), .val (.int r2), .val (.int r3), .val (.int r4), .val (.int r5), .val (.int r6), .val (.int r7), .val (.ref x8), .val (.ref x10), .val (.int (1 : Int32)), .unset] [])
          refine own_st (fun t_ k_ => XS.iload X80.here hx rfl (hb hby at_199) rfl k_) ?_
          show own_Go p e below _ T80 (mkF m 201 #[.val (.int le), .val (.int ff), .val (.int tt), .val (.int mo), .val (.int (1 : Int32)), .val (.int (1 : Int32)), .val (.int r2), .val (.int r3), .val (.int r4), .val (.int r5), .val (.int r6), .val (.int r7), .val (.ref x8), .val (.ref x10), .val (.int (1 : Int32)), .unset] [(.int (1 : Int32))])
          refine own_st (fun t_ k_ => XS.iconst X80.here hx rfl (hb hby at_201) k_) ?_
          show own_Go p e below _ T80 (mkF m 202 #[.val (.int le), .val (.int ff), .val (.int tt), .val (.int mo), .val (.int (1 : Int32)), .val (.int (1 : Int32)), .val (.int r2), .val (.int r3), .val (.int r4), .val (.int r5), .val (.int r6), .val (.int r7), .val (.ref x8), .val (.ref x10), .val (.int (1 : Int32)), .unset] [(.int (1 : Int32)), (.int (1 : Int32))])
          refine own_st (fun t_ k_ => XS.icmpYes X80.here hx rfl (pc0 := 202) (pc' := 227) rfl (hb hby at_202) rfl (by decide) (by decide) (by decide) k_) ?_
          show own_Go p e below _ T80 (mkF m 227 #[.val (.int le), .val (.int ff), .val (.int tt), .val (.int mo), .val (.int (1 : Int32)), .val (.int (1 : Int32)), .val (.int r2), .val (.int r3), .val (.int r4), .val (.int r5), .val (.int r6), .val (.int r7), .val (.ref x8), .val (.ref x10), .val (.int (1 : Int32)), .unset] [])
          refine own_st (fun t_ k_ => XS.iload X80.here hx rfl (hb hby at_227) rfl k_) ?_
          show own_Go p e below _ T80 (mkF m 229 #[.val (.int le), .val (.int ff), .val (.int tt), .val (.int mo), .val (.int (1 : Int32)), .val (.int (1 : Int32)), .val (.int r2), .val (.int r3), .val (.int r4), .val (.int r5), .val (.int r6), .val (.int r7), .val (.ref x8), .val (.ref x10), .val (.int (1 : Int32)), .unset] [(.int (1 : Int32))])
          refine own_st (fun t_ k_ => XS.iconst X80.here hx rfl (hb hby at_229) k_) ?_
          show own_Go p e below _ T80 (mkF m 230 #[.val (.int le), .val (.int ff), .val (.int tt), .val (.int mo), .val (.int (1 : Int32)), .val (.int (1 : Int32)), .val (.int r2), .val (.int r3), .val (.int r4), .val (.int r5), .val (.int r6), .val (.int r7), .val (.ref x8), .val (.ref x10), .val (.int (1 : Int32)), .unset] [(.int (2 : Int32)), (.int (1 : Int32))])
          refine own_st (fun t_ k_ => XS.icmpYes X80.here hx rfl (pc0 := 230) (pc' := 255) rfl (hb hby at_230) rfl (by decide) (by decide) (by decide) k_) ?_
          show own_Go p e below _ T80 (mkF m 255 #[.val (.int le), .val (.int ff), .val (.int tt), .val (.int mo), .val (.int (1 : Int32)), .val (.int (1 : Int32)), .val (.int r2), .val (.int r3), .val (.int r4), .val (.int r5), .val (.int r6), .val (.int r7), .val (.ref x8), .val (.ref x10), .val (.int (1 : Int32)), .unset] [])
          obtain ⟨T113, h113, X113, e113, E113, A113, D113, cel113, st113⟩ := newO X80 hx hZ hown (hw _ (List.mem_of_getElem? (i := 32) rfl)) (hw _ (List.mem_of_getElem? (i := 33) rfl)) (hw _ (List.mem_of_getElem? (i := 34) rfl)) hh80 (g := (mkF m 255 #[.val (.int le), .val (.int ff), .val (.int tt), .val (.int mo), .val (.int (1 : Int32)), .val (.int (1 : Int32)), .val (.int r2), .val (.int r3), .val (.int r4), .val (.int r5), .val (.int r6), .val (.int r7), .val (.ref x8), .val (.ref x10), .val (.int (1 : Int32)), .unset] [])) rfl (hb hby at_255) (by decide) (by decide)
          obtain ⟨nb113, g113⟩ : ∃ z, z = T10.heap.size := ⟨_, rfl⟩
          rw [← g113] at A113 D113 cel113 st113
          refine own_st st113 ?_
          have g_nb113 : n0 ≤ nb113 := Nat.le_trans (Nat.le_trans Z0 K10.1) (Nat.le_of_eq g113.symm)
          have K113 : Keep h0 h113 [] := K10.ext E113
          have sz_nb113 : h0.size ≤ nb113 := Nat.le_trans K10.1 (Nat.le_of_eq g113.symm)
          have B113 := own_Bk.ext E113 B10
          have Sf113 := Safe.ext E113 (own_Bk.ch B10) (Safe.new (Nat.le_of_eq g113.symm))
          have F113_form : Fld Z h113 nb113 "com/example/hebelwerk/hebelwerk/io/FixedForm" "form" "Ljava/lang/String;" .null := D113 (Or.inr (hw _ (List.mem_of_getElem? (i := 40) rfl))) (ty := (.object "java/lang/String")) (by decide)
          show own_Go p e below _ T113 (mkF m 258 #[.val (.int le), .val (.int ff), .val (.int tt), .val (.int mo), .val (.int (1 : Int32)), .val (.int (1 : Int32)), .val (.int r2), .val (.int r3), .val (.int r4), .val (.int r5), .val (.int r6), .val (.int r7), .val (.ref x8), .val (.ref x10), .val (.int (1 : Int32)), .unset] [(.ref nb113)])
          refine own_st (fun t_ k_ => XS.dup X113.here hx rfl (hb hby at_258) rfl rfl k_) ?_
          show own_Go p e below _ T113 (mkF m 259 #[.val (.int le), .val (.int ff), .val (.int tt), .val (.int mo), .val (.int (1 : Int32)), .val (.int (1 : Int32)), .val (.int r2), .val (.int r3), .val (.int r4), .val (.int r5), .val (.int r6), .val (.int r7), .val (.ref x8), .val (.ref x10), .val (.int (1 : Int32)), .unset] [(.ref nb113), (.ref nb113)])
          refine own_st (fun t_ k_ => XS.aload X113.here hx rfl (hb hby at_259) rfl rfl k_) ?_
          show own_Go p e below _ T113 (mkF m 261 #[.val (.int le), .val (.int ff), .val (.int tt), .val (.int mo), .val (.int (1 : Int32)), .val (.int (1 : Int32)), .val (.int r2), .val (.int r3), .val (.int r4), .val (.int r5), .val (.int r6), .val (.int r7), .val (.ref x8), .val (.ref x10), .val (.int (1 : Int32)), .unset] [(.ref x8), (.ref nb113), (.ref nb113)])
          refine own_callN X113 hx (y := (⟨"com/example/hebelwerk/hebelwerk/io/FixedForm", "<init>", "(Ljava/lang/String;)V"⟩ : MethodName)) rfl hown (mvT hZ (hw _ (List.mem_of_getElem? (i := 35) rfl))) (mvT hZ (hw _ (List.mem_of_getElem? (i := 36) rfl))) (mvT hZ (hw _ (List.mem_of_getElem? (i := 37) rfl))) (by decide) (backOf (W := 1) (rmCI l Z a0 hw [] nb113 x8 h113 n0 (Nat.le_trans Z0 K113.1) g_nb113 A113 F113_form) hZ (hw _ (List.mem_of_getElem? (i := 37) rfl)) (hw _ (List.mem_of_getElem? (i := 34) rfl)) (by decide) (by decide)) (a := nb113) (g := (mkF m 261 #[.val (.int le), .val (.int ff), .val (.int tt), .val (.int mo), .val (.int (1 : Int32)), .val (.int (1 : Int32)), .val (.int r2), .val (.int r3), .val (.int r4), .val (.int r5), .val (.int r6), .val (.int r7), .val (.ref x8), .val (.ref x10), .val (.int (1 : Int32)), .unset] [(.ref x8), (.ref nb113), (.ref nb113)])) rfl (by rw [hml]; rfl) (argsL := [(.ref x8)]) (rest := [(.ref nb113)]) (lenOf pd_8 rfl) rfl (by show 2 * 0 + _ ≤ _; exact Nat.le_of_eq rfl) (hb hby at_261) rfl e113 (by decide) (by decide) ?_
          rintro v114 T114 L114 X114 ⟨rfl, Nq114, Kq114, Eq114, Fk114⟩
          have N114 := Fr.app N80 Nq114
          have K114 : Keep h0 T114.heap [] := K113.trans Kq114 (allS (Or.inr sz_nb113) all0)
          have B114 := own_Bk.keep Kq114 (sfS Sf113 sf0) B113
          show own_Go p e below _ T114 (mkF m 264 #[.val (.int le), .val (.int ff), .val (.int tt), .val (.int mo), .val (.int (1 : Int32)), .val (.int (1 : Int32)), .val (.int r2), .val (.int r3), .val (.int r4), .val (.int r5), .val (.int r6), .val (.int r7), .val (.ref x8), .val (.ref x10), .val (.int (1 : Int32)), .unset] [(.ref nb113)])
          refine own_st (fun t_ k_ => XS.aload X114.here hx rfl (hb hby at_264) rfl rfl k_) ?_
          show own_Go p e below _ T114 (mkF m 266 #[.val (.int le), .val (.int ff), .val (.int tt), .val (.int mo), .val (.int (1 : Int32)), .val (.int (1 : Int32)), .val (.int r2), .val (.int r3), .val (.int r4), .val (.int r5), .val (.int r6), .val (.int r7), .val (.ref x8), .val (.ref x10), .val (.int (1 : Int32)), .unset] [(.ref x10), (.ref nb113)])
          have f115 := (f9.keep Kq10 all0)
          have f116 := (f115.ext E113)
          have f117 := (f116.keep Kq114 (allS g_nb113 all0))
          have f118 := (Ex8.keep Kq10)
          have f119 := (Exa.ext E113 f118)
          have f120 := (f119.keep Kq114)
          have f121 := (Cq8.keep Kq10 nin0)
          have f122 := (Fld.ext E113 f121)
          have ne123 : x8 ≠ nb113 := (Nat.ne_of_lt (Nat.lt_of_lt_of_le f118.lt (Nat.le_of_eq g113.symm)))
          have f124 := (f122.keep Kq114 (ninS ne123 nin0))
          have f125 := (Vq8.keep Kq10 nin0)
          have f126 := (Fld.ext E113 f125)
          have f127 := (f126.keep Kq114 (ninS ne123 nin0))
          have f128 := (Aq8.keep Kq10 nin0)
          have f129 := (f128.ext E113)
          have ne130 : t8 ≠ nb113 := (Nat.ne_of_lt (Nat.lt_of_lt_of_le f128.lt (Nat.le_of_eq g113.symm)))
          have f131 := (f129.keep Kq114 (ninS ne130 nin0))
          have f132 := (Exa.ext E113 Ex10)
          have f133 := (f132.keep Kq114)
          have f134 := (Fld.ext E113 Cq10)
          have ne135 : x10 ≠ nb113 := (Nat.ne_of_lt (Nat.lt_of_lt_of_le Ex10.lt (Nat.le_of_eq g113.symm)))
          have f136 := (f134.keep Kq114 (ninS ne135 nin0))
          have f137 := (Fld.ext E113 Vq10)
          have f138 := (f137.keep Kq114 (ninS ne135 nin0))
          have f139 := (Aq10.ext E113)
          have ne140 : t10 ≠ nb113 := (Nat.ne_of_lt (Nat.lt_of_lt_of_le Aq10.lt (Nat.le_of_eq g113.symm)))
          have f141 := (f139.keep Kq114 (ninS ne140 nin0))
          obtain ⟨cq143, kq143, q143a, q143b, q143c⟩ := isOf hZ rfl Eq114
          refine own_callV X114 hx (y := (⟨"com/example/hebelwerk/hebelwerk/io/FixedForm", "matches", "(Ljava/lang/String;)Z"⟩ : MethodName)) (z := (⟨"com/example/hebelwerk/hebelwerk/io/FixedForm", "matches", "(Ljava/lang/String;)Z"⟩ : MethodName)) hown (mvT hZ (hw _ (List.mem_of_getElem? (i := 41) rfl))) (mvT hZ (hw _ (List.mem_of_getElem? (i := 42) rfl))) (notFace_of_selects (args := #[]) (mvT hZ (hw _ (List.mem_of_getElem? (i := 44) rfl)))) (mvT hZ (hw _ (List.mem_of_getElem? (i := 44) rfl))) (mvT hZ (hw _ (List.mem_of_getElem? (i := 43) rfl))) (by decide) (backOf (W := 0) (rmM1 l Z a0 hw [] nb113 x8 t8 x10 t10 kb8 kb10 (own_str (1 : Int32) [r2, r3, r4]) (own_str (1 : Int32) [r5, r6, r7]) G fm r2 r5 (1 : Int32) T114.heap n0 (Nat.le_trans Z0 K114.1) SC hCS f117 SF rG Eq114 Fk114 f120 f124 f127 f131 hp8 (own_strl (1 : Int32) r2 r3 r4) f133 f136 f138 f141 hp10 (own_strl (1 : Int32) r5 r6 r7) rfl rfl (by rw [if_neg hz81])) hZ (hw _ (List.mem_of_getElem? (i := 45) rfl)) (hw _ (List.mem_of_getElem? (i := 34) rfl)) (by decide) (by decide)) q143a q143c (g := (mkF m 266 #[.val (.int le), .val (.int ff), .val (.int tt), .val (.int mo), .val (.int (1 : Int32)), .val (.int (1 : Int32)), .val (.int r2), .val (.int r3), .val (.int r4), .val (.int r5), .val (.int r6), .val (.int r7), .val (.ref x8), .val (.ref x10), .val (.int (1 : Int32)), .unset] [(.ref x10), (.ref nb113)])) rfl (by rw [hml]; rfl) (argsL := [(.ref x10)]) (rest := []) (lenOf pd_9 rfl) rfl (by show 2 * 0 + _ ≤ _; exact Nat.le_of_eq rfl) (hb hby at_266) rfl rfl (by decide) (by decide) ?_
          rintro v142 T142 L142 X142 ⟨rfl, Nq142, hh142⟩
          have N142 := Fr.app N114 Nq142
          show own_Go p e below _ T142 (mkF m 269 #[.val (.int le), .val (.int ff), .val (.int tt), .val (.int mo), .val (.int (1 : Int32)), .val (.int (1 : Int32)), .val (.int r2), .val (.int r3), .val (.int r4), .val (.int r5), .val (.int r6), .val (.int r7), .val (.ref x8), .val (.ref x10), .val (.int (1 : Int32)), .unset] [(.int (1 : Int32))])
          refine own_st (fun t_ k_ => XS.istore X142.here hx rfl (hb hby at_269) rfl (l' := #[.val (.int le), .val (.int ff), .val (.int tt), .val (.int mo), .val (.int (1 : Int32)), .val (.int (1 : Int32)), .val (.int r2), .val (.int r3), .val (.int r4), .val (.int r5), .val (.int r6), .val (.int r7), .val (.ref x8), .val (.ref x10), .val (.int (1 : Int32)), .val (.int (1 : Int32))]) rfl k_) ?_
          show own_Go p e below _ T142 (mkF m 271 #[.val (.int le), .val (.int ff), .val (.int tt), .val (.int mo), .val (.int (1 : Int32)), .val (.int (1 : Int32)), .val (.int r2), .val (.int r3), .val (.int r4), .val (.int r5), .val (.int r6), .val (.int r7), .val (.ref x8), .val (.ref x10), .val (.int (1 : Int32)), .val (.int (1 : Int32))] [])
          refine own_st (fun t_ k_ => XS.iload X142.here hx rfl (hb hby at_271) rfl k_) ?_
          show own_Go p e below _ T142 (mkF m 273 #[.val (.int le), .val (.int ff), .val (.int tt), .val (.int mo), .val (.int (1 : Int32)), .val (.int (1 : Int32)), .val (.int r2), .val (.int r3), .val (.int r4), .val (.int r5), .val (.int r6), .val (.int r7), .val (.ref x8), .val (.ref x10), .val (.int (1 : Int32)), .val (.int (1 : Int32))] [(.int (1 : Int32))])
          refine own_st (fun t_ k_ => XS.iload X142.here hx rfl (hb hby at_273) rfl k_) ?_
          show own_Go p e below _ T142 (mkF m 275 #[.val (.int le), .val (.int ff), .val (.int tt), .val (.int mo), .val (.int (1 : Int32)), .val (.int (1 : Int32)), .val (.int r2), .val (.int r3), .val (.int r4), .val (.int r5), .val (.int r6), .val (.int r7), .val (.ref x8), .val (.ref x10), .val (.int (1 : Int32)), .val (.int (1 : Int32))] [(.int (1 : Int32)), (.int (1 : Int32))])
          refine own_st (fun t_ k_ => XS.icmpNo X142.here hx rfl (hb hby at_275) rfl (by decide) k_) ?_
          show own_Go p e below _ T142 (mkF m 278 #[.val (.int le), .val (.int ff), .val (.int tt), .val (.int mo), .val (.int (1 : Int32)), .val (.int (1 : Int32)), .val (.int r2), .val (.int r3), .val (.int r4), .val (.int r5), .val (.int r6), .val (.int r7), .val (.ref x8), .val (.ref x10), .val (.int (1 : Int32)), .val (.int (1 : Int32))] [])
          refine own_st (fun t_ k_ => XS.iconst X142.here hx rfl (hb hby at_278) k_) ?_
          show own_Go p e below _ T142 (mkF m 279 #[.val (.int le), .val (.int ff), .val (.int tt), .val (.int mo), .val (.int (1 : Int32)), .val (.int (1 : Int32)), .val (.int r2), .val (.int r3), .val (.int r4), .val (.int r5), .val (.int r6), .val (.int r7), .val (.ref x8), .val (.ref x10), .val (.int (1 : Int32)), .val (.int (1 : Int32))] [(.int (1 : Int32))])
          refine own_st (fun t_ k_ => XS.goto X142.here hx rfl (pc0 := 279) (pc' := 283) rfl (hb hby at_279) (by decide) (by decide) k_) ?_
          show own_Go p e below _ T142 (mkF m 283 #[.val (.int le), .val (.int ff), .val (.int tt), .val (.int mo), .val (.int (1 : Int32)), .val (.int (1 : Int32)), .val (.int r2), .val (.int r3), .val (.int r4), .val (.int r5), .val (.int r6), .val (.int r7), .val (.ref x8), .val (.ref x10), .val (.int (1 : Int32)), .val (.int (1 : Int32))] [(.int (1 : Int32))])
          refine own_retNS X142 hx hlk hZ hEL hh142 hh B114 (t := .boolean) Bd.returns (by simp) (hb hby at_283) ?_ (by decide) (by decide)
          show Q0 n0 _ T142.heap _
          rw [hh142]
          exact ⟨rfl, N142⟩
      · show own_Go p e below _ T10 (mkF m 165 #[.val (.int le), .val (.int ff), .val (.int tt), .val (.int mo), .val (.int (2 : Int32)), .val (.int (2 : Int32)), .val (.int r2), .val (.int r3), .val (.int r4), .val (.int r5), .val (.int r6), .val (.int r7), .val (.ref x8), .val (.ref x10), .unset, .unset] [])
        refine own_st (fun t_ k_ => XS.iconst X10.here hx rfl (hb hby at_165) k_) ?_
        show own_Go p e below _ T10 (mkF m 166 #[.val (.int le), .val (.int ff), .val (.int tt), .val (.int mo), .val (.int (2 : Int32)), .val (.int (2 : Int32)), .val (.int r2), .val (.int r3), .val (.int r4), .val (.int r5), .val (.int r6), .val (.int r7), .val (.ref x8), .val (.ref x10), .unset, .unset] [(.int (1 : Int32))])
        refine own_st (fun t_ k_ => XS.goto X10.here hx rfl (pc0 := 166) (pc' := 170) rfl (hb hby at_166) (by decide) (by decide) k_) ?_
        show own_Go p e below _ T10 (mkF m 170 #[.val (.int le), .val (.int ff), .val (.int tt), .val (.int mo), .val (.int (2 : Int32)), .val (.int (2 : Int32)), .val (.int r2), .val (.int r3), .val (.int r4), .val (.int r5), .val (.int r6), .val (.int r7), .val (.ref x8), .val (.ref x10), .unset, .unset] [(.int (1 : Int32))])
        refine own_st (fun t_ k_ => XS.istore X10.here hx rfl (hb hby at_170) rfl (l' := #[.val (.int le), .val (.int ff), .val (.int tt), .val (.int mo), .val (.int (2 : Int32)), .val (.int (2 : Int32)), .val (.int r2), .val (.int r3), .val (.int r4), .val (.int r5), .val (.int r6), .val (.int r7), .val (.ref x8), .val (.ref x10), .val (.int (1 : Int32)), .unset]) rfl k_) ?_
        show own_Go p e below _ T10 (mkF m 172 #[.val (.int le), .val (.int ff), .val (.int tt), .val (.int mo), .val (.int (2 : Int32)), .val (.int (2 : Int32)), .val (.int r2), .val (.int r3), .val (.int r4), .val (.int r5), .val (.int r6), .val (.int r7), .val (.ref x8), .val (.ref x10), .val (.int (1 : Int32)), .unset] [])
        refine own_st (fun t_ k_ => XS.iload X10.here hx rfl (hb hby at_172) rfl k_) ?_
        show own_Go p e below _ T10 (mkF m 174 #[.val (.int le), .val (.int ff), .val (.int tt), .val (.int mo), .val (.int (2 : Int32)), .val (.int (2 : Int32)), .val (.int r2), .val (.int r3), .val (.int r4), .val (.int r5), .val (.int r6), .val (.int r7), .val (.ref x8), .val (.ref x10), .val (.int (1 : Int32)), .unset] [(.int (2 : Int32))])
        refine own_st (fun t_ k_ => XS.ifNo X10.here hx rfl (hb hby at_174) rfl (by decide) k_) ?_
        show own_Go p e below _ T10 (mkF m 177 #[.val (.int le), .val (.int ff), .val (.int tt), .val (.int mo), .val (.int (2 : Int32)), .val (.int (2 : Int32)), .val (.int r2), .val (.int r3), .val (.int r4), .val (.int r5), .val (.int r6), .val (.int r7), .val (.ref x8), .val (.ref x10), .val (.int (1 : Int32)), .unset] [])
        refine own_st (fun t_ k_ => XS.iload X10.here hx rfl (hb hby at_177) rfl k_) ?_
        show own_Go p e below _ T10 (mkF m 179 #[.val (.int le), .val (.int ff), .val (.int tt), .val (.int mo), .val (.int (2 : Int32)), .val (.int (2 : Int32)), .val (.int r2), .val (.int r3), .val (.int r4), .val (.int r5), .val (.int r6), .val (.int r7), .val (.ref x8), .val (.ref x10), .val (.int (1 : Int32)), .unset] [(.int (1 : Int32))])
        refine own_st (fun t_ k_ => XS.ifNo X10.here hx rfl (hb hby at_179) rfl (by decide) k_) ?_
        show own_Go p e below _ T10 (mkF m 182 #[.val (.int le), .val (.int ff), .val (.int tt), .val (.int mo), .val (.int (2 : Int32)), .val (.int (2 : Int32)), .val (.int r2), .val (.int r3), .val (.int r4), .val (.int r5), .val (.int r6), .val (.int r7), .val (.ref x8), .val (.ref x10), .val (.int (1 : Int32)), .unset] [])
        refine own_st (fun t_ k_ => XS.iload X10.here hx rfl (hb hby at_182) rfl k_) ?_
        show own_Go p e below _ T10 (mkF m 184 #[.val (.int le), .val (.int ff), .val (.int tt), .val (.int mo), .val (.int (2 : Int32)), .val (.int (2 : Int32)), .val (.int r2), .val (.int r3), .val (.int r4), .val (.int r5), .val (.int r6), .val (.int r7), .val (.ref x8), .val (.ref x10), .val (.int (1 : Int32)), .unset] [(.int r2)])
        refine own_st (fun t_ k_ => XS.iload X10.here hx rfl (hb hby at_184) rfl k_) ?_
        show own_Go p e below _ T10 (mkF m 186 #[.val (.int le), .val (.int ff), .val (.int tt), .val (.int mo), .val (.int (2 : Int32)), .val (.int (2 : Int32)), .val (.int r2), .val (.int r3), .val (.int r4), .val (.int r5), .val (.int r6), .val (.int r7), .val (.ref x8), .val (.ref x10), .val (.int (1 : Int32)), .unset] [(.int r5), (.int r2)])
        refine own_callS X10 hx (y := (⟨"com/example/hebelwerk/hebelwerk/io/FixedFormMatchesPinLaw", "fits", "(CC)Z"⟩ : MethodName)) hown (mvT hZ (hw _ (List.mem_of_getElem? (i := 67) rfl))) (mvT hZ (hw _ (List.mem_of_getElem? (i := 68) rfl))) (mvT hZ (hw _ (List.mem_of_getElem? (i := 2) rfl))) (mvT hZ (hw _ (List.mem_of_getElem? (i := 69) rfl))) (by decide) (backOf (W := 0) (rmFI l Z a0 hw [] r2 r5 T10.heap n0 (Nat.le_trans Z0 K10.1)) hZ (hw _ (List.mem_of_getElem? (i := 69) rfl)) (hw _ (List.mem_of_getElem? (i := 2) rfl)) (by decide) (by decide)) (g := (mkF m 186 #[.val (.int le), .val (.int ff), .val (.int tt), .val (.int mo), .val (.int (2 : Int32)), .val (.int (2 : Int32)), .val (.int r2), .val (.int r3), .val (.int r4), .val (.int r5), .val (.int r6), .val (.int r7), .val (.ref x8), .val (.ref x10), .val (.int (1 : Int32)), .unset] [(.int r5), (.int r2)])) rfl (by rw [hml]; rfl) (argsL := [(.int r2), (.int r5)]) (rest := []) (lenOf pd_10 rfl) rfl (by show 2 * 0 + _ ≤ _; exact Nat.le_of_eq rfl) (hb hby at_186) rfl rfl (by decide) (by decide) ?_
        rintro v144 T144 L144 X144 ⟨rfl, Nq144, hh144⟩
        have N144 := Fr.app N10 Nq144
        show own_Go p e below _ T144 (mkF m 189 #[.val (.int le), .val (.int ff), .val (.int tt), .val (.int mo), .val (.int (2 : Int32)), .val (.int (2 : Int32)), .val (.int r2), .val (.int r3), .val (.int r4), .val (.int r5), .val (.int r6), .val (.int r7), .val (.ref x8), .val (.ref x10), .val (.int (1 : Int32)), .unset] [(.int (own_fits r2 r5))])
        by_cases hz145 : (own_fits r2 r5) = (0 : Int32)
        · refine own_st (fun t_ k_ => XS.ifYes X144.here hx rfl (pc0 := 189) (pc' := 196) rfl (hb hby at_189) rfl ((if0 _ _).trans (teq hz145).1) (by decide) (by decide) k_) ?_
          show own_Go p e below _ T144 (mkF m 196 #[.val (.int le), .val (.int ff), .val (.int tt), .val (.int mo), .val (.int (2 : Int32)), .val (.int (2 : Int32)), .val (.int r2), .val (.int r3), .val (.int r4), .val (.int r5), .val (.int r6), .val (.int r7), .val (.ref x8), .val (.ref x10), .val (.int (1 : Int32)), .unset] [])
          refine own_st (fun t_ k_ => XS.iconst X144.here hx rfl (hb hby at_196) k_) ?_
          show own_Go p e below _ T144 (mkF m 197 #[.val (.int le), .val (.int ff), .val (.int tt), .val (.int mo), .val (.int (2 : Int32)), .val (.int (2 : Int32)), .val (.int r2), .val (.int r3), .val (.int r4), .val (.int r5), .val (.int r6), .val (.int r7), .val (.ref x8), .val (.ref x10), .val (.int (1 : Int32)), .unset] [(.int (0 : Int32))])
          refine own_st (fun t_ k_ => XS.istore X144.here hx rfl (hb hby at_197) rfl (l' := #[.val (.int le), .val (.int ff), .val (.int tt), .val (.int mo), .val (.int (2 : Int32)), .val (.int (2 : Int32)), .val (.int r2), .val (.int r3), .val (.int r4), .val (.int r5), .val (.int r6), .val (.int r7), .val (.ref x8), .val (.ref x10), .val (.int (0 : Int32)), .unset]) rfl k_) ?_
          show own_Go p e below _ T144 (mkF m 199 #[.val (.int le), .val (.int ff), .val (.int tt), .val (.int mo), .val (.int (2 : Int32)), .val (.int (2 : Int32)), .val (.int r2), .val (.int r3), .val (.int r4), .val (.int r5), .val (.int r6), .val (.int r7), .val (.ref x8), .val (.ref x10), .val (.int (0 : Int32)), .unset] [])
          refine own_st (fun t_ k_ => XS.iload X144.here hx rfl (hb hby at_199) rfl k_) ?_
          show own_Go p e below _ T144 (mkF m 201 #[.val (.int le), .val (.int ff), .val (.int tt), .val (.int mo), .val (.int (2 : Int32)), .val (.int (2 : Int32)), .val (.int r2), .val (.int r3), .val (.int r4), .val (.int r5), .val (.int r6), .val (.int r7), .val (.ref x8), .val (.ref x10), .val (.int (0 : Int32)), .unset] [(.int (2 : Int32))])
          refine own_st (fun t_ k_ => XS.iconst X144.here hx rfl (hb hby at_201) k_) ?_
          show own_Go p e below _ T144 (mkF m 202 #[.val (.int le), .val (.int ff), .val (.int tt), .val (.int mo), .val (.int (2 : Int32)), .val (.int (2 : Int32)), .val (.int r2), .val (.int r3), .val (.int r4), .val (.int r5), .val (.int r6), .val (.int r7), .val (.ref x8), .val (.ref x10), .val (.int (0 : Int32)), .unset] [(.int (1 : Int32)), (.int (2 : Int32))])
          refine own_st (fun t_ k_ => XS.icmpNo X144.here hx rfl (hb hby at_202) rfl (by decide) k_) ?_
          show own_Go p e below _ T144 (mkF m 205 #[.val (.int le), .val (.int ff), .val (.int tt), .val (.int mo), .val (.int (2 : Int32)), .val (.int (2 : Int32)), .val (.int r2), .val (.int r3), .val (.int r4), .val (.int r5), .val (.int r6), .val (.int r7), .val (.ref x8), .val (.ref x10), .val (.int (0 : Int32)), .unset] [])
          refine own_st (fun t_ k_ => XS.iload X144.here hx rfl (hb hby at_205) rfl k_) ?_
          show own_Go p e below _ T144 (mkF m 207 #[.val (.int le), .val (.int ff), .val (.int tt), .val (.int mo), .val (.int (2 : Int32)), .val (.int (2 : Int32)), .val (.int r2), .val (.int r3), .val (.int r4), .val (.int r5), .val (.int r6), .val (.int r7), .val (.ref x8), .val (.ref x10), .val (.int (0 : Int32)), .unset] [(.int (0 : Int32))])
          refine own_st (fun t_ k_ => XS.ifYes X144.here hx rfl (pc0 := 207) (pc' := 224) rfl (hb hby at_207) rfl (by decide) (by decide) (by decide) k_) ?_
          show own_Go p e below _ T144 (mkF m 224 #[.val (.int le), .val (.int ff), .val (.int tt), .val (.int mo), .val (.int (2 : Int32)), .val (.int (2 : Int32)), .val (.int r2), .val (.int r3), .val (.int r4), .val (.int r5), .val (.int r6), .val (.int r7), .val (.ref x8), .val (.ref x10), .val (.int (0 : Int32)), .unset] [])
          refine own_st (fun t_ k_ => XS.iconst X144.here hx rfl (hb hby at_224) k_) ?_
          show own_Go p e below _ T144 (mkF m 225 #[.val (.int le), .val (.int ff), .val (.int tt), .val (.int mo), .val (.int (2 : Int32)), .val (.int (2 : Int32)), .val (.int r2), .val (.int r3), .val (.int r4), .val (.int r5), .val (.int r6), .val (.int r7), .val (.ref x8), .val (.ref x10), .val (.int (0 : Int32)), .unset] [(.int (0 : Int32))])
          refine own_st (fun t_ k_ => XS.istore X144.here hx rfl (hb hby at_225) rfl (l' := #[.val (.int le), .val (.int ff), .val (.int tt), .val (.int mo), .val (.int (2 : Int32)), .val (.int (2 : Int32)), .val (.int r2), .val (.int r3), .val (.int r4), .val (.int r5), .val (.int r6), .val (.int r7), .val (.ref x8), .val (.ref x10), .val (.int (0 : Int32)), .unset]) rfl k_) ?_
          show own_Go p e below _ T144 (mkF m 227 #[.val (.int le), .val (.int ff), .val (.int tt), .val (.int mo), .val (.int (2 : Int32)), .val (.int (2 : Int32)), .val (.int r2), .val (.int r3), .val (.int r4), .val (.int r5), .val (.int r6), .val (.int r7), .val (.ref x8), .val (.ref x10), .val (.int (0 : Int32)), .unset] [])
          refine own_st (fun t_ k_ => XS.iload X144.here hx rfl (hb hby at_227) rfl k_) ?_
          show own_Go p e below _ T144 (mkF m 229 #[.val (.int le), .val (.int ff), .val (.int tt), .val (.int mo), .val (.int (2 : Int32)), .val (.int (2 : Int32)), .val (.int r2), .val (.int r3), .val (.int r4), .val (.int r5), .val (.int r6), .val (.int r7), .val (.ref x8), .val (.ref x10), .val (.int (0 : Int32)), .unset] [(.int (2 : Int32))])
          refine own_st (fun t_ k_ => XS.iconst X144.here hx rfl (hb hby at_229) k_) ?_
          show own_Go p e below _ T144 (mkF m 230 #[.val (.int le), .val (.int ff), .val (.int tt), .val (.int mo), .val (.int (2 : Int32)), .val (.int (2 : Int32)), .val (.int r2), .val (.int r3), .val (.int r4), .val (.int r5), .val (.int r6), .val (.int r7), .val (.ref x8), .val (.ref x10), .val (.int (0 : Int32)), .unset] [(.int (2 : Int32)), (.int (2 : Int32))])
          refine own_st (fun t_ k_ => XS.icmpYes X144.here hx rfl (pc0 := 230) (pc' := 255) rfl (hb hby at_230) rfl (by decide) (by decide) (by decide) k_) ?_
          show own_Go p e below _ T144 (mkF m 255 #[.val (.int le), .val (.int ff), .val (.int tt), .val (.int mo), .val (.int (2 : Int32)), .val (.int (2 : Int32)), .val (.int r2), .val (.int r3), .val (.int r4), .val (.int r5), .val (.int r6), .val (.int r7), .val (.ref x8), .val (.ref x10), .val (.int (0 : Int32)), .unset] [])
          obtain ⟨T146, h146, X146, e146, E146, A146, D146, cel146, st146⟩ := newO X144 hx hZ hown (hw _ (List.mem_of_getElem? (i := 32) rfl)) (hw _ (List.mem_of_getElem? (i := 33) rfl)) (hw _ (List.mem_of_getElem? (i := 34) rfl)) hh144 (g := (mkF m 255 #[.val (.int le), .val (.int ff), .val (.int tt), .val (.int mo), .val (.int (2 : Int32)), .val (.int (2 : Int32)), .val (.int r2), .val (.int r3), .val (.int r4), .val (.int r5), .val (.int r6), .val (.int r7), .val (.ref x8), .val (.ref x10), .val (.int (0 : Int32)), .unset] [])) rfl (hb hby at_255) (by decide) (by decide)
          obtain ⟨nb146, g146⟩ : ∃ z, z = T10.heap.size := ⟨_, rfl⟩
          rw [← g146] at A146 D146 cel146 st146
          refine own_st st146 ?_
          have g_nb146 : n0 ≤ nb146 := Nat.le_trans (Nat.le_trans Z0 K10.1) (Nat.le_of_eq g146.symm)
          have K146 : Keep h0 h146 [] := K10.ext E146
          have sz_nb146 : h0.size ≤ nb146 := Nat.le_trans K10.1 (Nat.le_of_eq g146.symm)
          have B146 := own_Bk.ext E146 B10
          have Sf146 := Safe.ext E146 (own_Bk.ch B10) (Safe.new (Nat.le_of_eq g146.symm))
          have F146_form : Fld Z h146 nb146 "com/example/hebelwerk/hebelwerk/io/FixedForm" "form" "Ljava/lang/String;" .null := D146 (Or.inr (hw _ (List.mem_of_getElem? (i := 40) rfl))) (ty := (.object "java/lang/String")) (by decide)
          show own_Go p e below _ T146 (mkF m 258 #[.val (.int le), .val (.int ff), .val (.int tt), .val (.int mo), .val (.int (2 : Int32)), .val (.int (2 : Int32)), .val (.int r2), .val (.int r3), .val (.int r4), .val (.int r5), .val (.int r6), .val (.int r7), .val (.ref x8), .val (.ref x10), .val (.int (0 : Int32)), .unset] [(.ref nb146)])
          refine own_st (fun t_ k_ => XS.dup X146.here hx rfl (hb hby at_258) rfl rfl k_) ?_
          show own_Go p e below _ T146 (mkF m 259 #[.val (.int le), .val (.int ff), .val (.int tt), .val (.int mo), .val (.int (2 : Int32)), .val (.int (2 : Int32)), .val (.int r2), .val (.int r3), .val (.int r4), .val (.int r5), .val (.int r6), .val (.int r7), .val (.ref x8), .val (.ref x10), .val (.int (0 : Int32)), .unset] [(.ref nb146), (.ref nb146)])
          refine own_st (fun t_ k_ => XS.aload X146.here hx rfl (hb hby at_259) rfl rfl k_) ?_
          show own_Go p e below _ T146 (mkF m 261 #[.val (.int le), .val (.int ff), .val (.int tt), .val (.int mo), .val (.int (2 : Int32)), .val (.int (2 : Int32)), .val (.int r2), .val (.int r3), .val (.int r4), .val (.int r5), .val (.int r6), .val (.int r7), .val (.ref x8), .val (.ref x10), .val (.int (0 : Int32)), .unset] [(.ref x8), (.ref nb146), (.ref nb146)])
          refine own_callN X146 hx (y := (⟨"com/example/hebelwerk/hebelwerk/io/FixedForm", "<init>", "(Ljava/lang/String;)V"⟩ : MethodName)) rfl hown (mvT hZ (hw _ (List.mem_of_getElem? (i := 35) rfl))) (mvT hZ (hw _ (List.mem_of_getElem? (i := 36) rfl))) (mvT hZ (hw _ (List.mem_of_getElem? (i := 37) rfl))) (by decide) (backOf (W := 1) (rmCI l Z a0 hw [] nb146 x8 h146 n0 (Nat.le_trans Z0 K146.1) g_nb146 A146 F146_form) hZ (hw _ (List.mem_of_getElem? (i := 37) rfl)) (hw _ (List.mem_of_getElem? (i := 34) rfl)) (by decide) (by decide)) (a := nb146) (g := (mkF m 261 #[.val (.int le), .val (.int ff), .val (.int tt), .val (.int mo), .val (.int (2 : Int32)), .val (.int (2 : Int32)), .val (.int r2), .val (.int r3), .val (.int r4), .val (.int r5), .val (.int r6), .val (.int r7), .val (.ref x8), .val (.ref x10), .val (.int (0 : Int32)), .unset] [(.ref x8), (.ref nb146), (.ref nb146)])) rfl (by rw [hml]; rfl) (argsL := [(.ref x8)]) (rest := [(.ref nb146)]) (lenOf pd_8 rfl) rfl (by show 2 * 0 + _ ≤ _; exact Nat.le_of_eq rfl) (hb hby at_261) rfl e146 (by decide) (by decide) ?_
          rintro v147 T147 L147 X147 ⟨rfl, Nq147, Kq147, Eq147, Fk147⟩
          have N147 := Fr.app N144 Nq147
          have K147 : Keep h0 T147.heap [] := K146.trans Kq147 (allS (Or.inr sz_nb146) all0)
          have B147 := own_Bk.keep Kq147 (sfS Sf146 sf0) B146
          show own_Go p e below _ T147 (mkF m 264 #[.val (.int le), .val (.int ff), .val (.int tt), .val (.int mo), .val (.int (2 : Int32)), .val (.int (2 : Int32)), .val (.int r2), .val (.int r3), .val (.int r4), .val (.int r5), .val (.int r6), .val (.int r7), .val (.ref x8), .val (.ref x10), .val (.int (0 : Int32)), .unset] [(.ref nb146)])
          refine own_st (fun t_ k_ => XS.aload X147.here hx rfl (hb hby at_264) rfl rfl k_) ?_
          show own_Go p e below _ T147 (mkF m 266 #[.val (.int le), .val (.int ff), .val (.int tt), .val (.int mo), .val (.int (2 : Int32)), .val (.int (2 : Int32)), .val (.int r2), .val (.int r3), .val (.int r4), .val (.int r5), .val (.int r6), .val (.int r7), .val (.ref x8), .val (.ref x10), .val (.int (0 : Int32)), .unset] [(.ref x10), (.ref nb146)])
          have f148 := (f9.keep Kq10 all0)
          have f149 := (f148.ext E146)
          have f150 := (f149.keep Kq147 (allS g_nb146 all0))
          have f151 := (Ex8.keep Kq10)
          have f152 := (Exa.ext E146 f151)
          have f153 := (f152.keep Kq147)
          have f154 := (Cq8.keep Kq10 nin0)
          have f155 := (Fld.ext E146 f154)
          have ne156 : x8 ≠ nb146 := (Nat.ne_of_lt (Nat.lt_of_lt_of_le f151.lt (Nat.le_of_eq g146.symm)))
          have f157 := (f155.keep Kq147 (ninS ne156 nin0))
          have f158 := (Vq8.keep Kq10 nin0)
          have f159 := (Fld.ext E146 f158)
          have f160 := (f159.keep Kq147 (ninS ne156 nin0))
          have f161 := (Aq8.keep Kq10 nin0)
          have f162 := (f161.ext E146)
          have ne163 : t8 ≠ nb146 := (Nat.ne_of_lt (Nat.lt_of_lt_of_le f161.lt (Nat.le_of_eq g146.symm)))
          have f164 := (f162.keep Kq147 (ninS ne163 nin0))
          have f165 := (Exa.ext E146 Ex10)
          have f166 := (f165.keep Kq147)
          have f167 := (Fld.ext E146 Cq10)
          have ne168 : x10 ≠ nb146 := (Nat.ne_of_lt (Nat.lt_of_lt_of_le Ex10.lt (Nat.le_of_eq g146.symm)))
          have f169 := (f167.keep Kq147 (ninS ne168 nin0))
          have f170 := (Fld.ext E146 Vq10)
          have f171 := (f170.keep Kq147 (ninS ne168 nin0))
          have f172 := (Aq10.ext E146)
          have ne173 : t10 ≠ nb146 := (Nat.ne_of_lt (Nat.lt_of_lt_of_le Aq10.lt (Nat.le_of_eq g146.symm)))
          have f174 := (f172.keep Kq147 (ninS ne173 nin0))
          obtain ⟨cq176, kq176, q176a, q176b, q176c⟩ := isOf hZ rfl Eq147
          refine own_callV X147 hx (y := (⟨"com/example/hebelwerk/hebelwerk/io/FixedForm", "matches", "(Ljava/lang/String;)Z"⟩ : MethodName)) (z := (⟨"com/example/hebelwerk/hebelwerk/io/FixedForm", "matches", "(Ljava/lang/String;)Z"⟩ : MethodName)) hown (mvT hZ (hw _ (List.mem_of_getElem? (i := 41) rfl))) (mvT hZ (hw _ (List.mem_of_getElem? (i := 42) rfl))) (notFace_of_selects (args := #[]) (mvT hZ (hw _ (List.mem_of_getElem? (i := 44) rfl)))) (mvT hZ (hw _ (List.mem_of_getElem? (i := 44) rfl))) (mvT hZ (hw _ (List.mem_of_getElem? (i := 43) rfl))) (by decide) (backOf (W := 0) (rmM2 l Z a0 hw [] nb146 x8 t8 x10 t10 kb8 kb10 (own_str (2 : Int32) [r2, r3, r4]) (own_str (2 : Int32) [r5, r6, r7]) G fm r2 r3 r5 r6 (0 : Int32) T147.heap n0 (Nat.le_trans Z0 K147.1) SC hCS f150 SF rG Eq147 Fk147 f153 f157 f160 f164 hp8 (own_strl (2 : Int32) r2 r3 r4) f166 f169 f171 f174 hp10 (own_strl (2 : Int32) r5 r6 r7) rfl rfl (by rw [if_pos hz145])) hZ (hw _ (List.mem_of_getElem? (i := 45) rfl)) (hw _ (List.mem_of_getElem? (i := 34) rfl)) (by decide) (by decide)) q176a q176c (g := (mkF m 266 #[.val (.int le), .val (.int ff), .val (.int tt), .val (.int mo), .val (.int (2 : Int32)), .val (.int (2 : Int32)), .val (.int r2), .val (.int r3), .val (.int r4), .val (.int r5), .val (.int r6), .val (.int r7), .val (.ref x8), .val (.ref x10), .val (.int (0 : Int32)), .unset] [(.ref x10), (.ref nb146)])) rfl (by rw [hml]; rfl) (argsL := [(.ref x10)]) (rest := []) (lenOf pd_9 rfl) rfl (by show 2 * 0 + _ ≤ _; exact Nat.le_of_eq rfl) (hb hby at_266) rfl rfl (by decide) (by decide) ?_
          rintro v175 T175 L175 X175 ⟨rfl, Nq175, hh175⟩
          have N175 := Fr.app N147 Nq175
          show own_Go p e below _ T175 (mkF m 269 #[.val (.int le), .val (.int ff), .val (.int tt), .val (.int mo), .val (.int (2 : Int32)), .val (.int (2 : Int32)), .val (.int r2), .val (.int r3), .val (.int r4), .val (.int r5), .val (.int r6), .val (.int r7), .val (.ref x8), .val (.ref x10), .val (.int (0 : Int32)), .unset] [(.int (0 : Int32))])
          refine own_st (fun t_ k_ => XS.istore X175.here hx rfl (hb hby at_269) rfl (l' := #[.val (.int le), .val (.int ff), .val (.int tt), .val (.int mo), .val (.int (2 : Int32)), .val (.int (2 : Int32)), .val (.int r2), .val (.int r3), .val (.int r4), .val (.int r5), .val (.int r6), .val (.int r7), .val (.ref x8), .val (.ref x10), .val (.int (0 : Int32)), .val (.int (0 : Int32))]) rfl k_) ?_
          show own_Go p e below _ T175 (mkF m 271 #[.val (.int le), .val (.int ff), .val (.int tt), .val (.int mo), .val (.int (2 : Int32)), .val (.int (2 : Int32)), .val (.int r2), .val (.int r3), .val (.int r4), .val (.int r5), .val (.int r6), .val (.int r7), .val (.ref x8), .val (.ref x10), .val (.int (0 : Int32)), .val (.int (0 : Int32))] [])
          refine own_st (fun t_ k_ => XS.iload X175.here hx rfl (hb hby at_271) rfl k_) ?_
          show own_Go p e below _ T175 (mkF m 273 #[.val (.int le), .val (.int ff), .val (.int tt), .val (.int mo), .val (.int (2 : Int32)), .val (.int (2 : Int32)), .val (.int r2), .val (.int r3), .val (.int r4), .val (.int r5), .val (.int r6), .val (.int r7), .val (.ref x8), .val (.ref x10), .val (.int (0 : Int32)), .val (.int (0 : Int32))] [(.int (0 : Int32))])
          refine own_st (fun t_ k_ => XS.iload X175.here hx rfl (hb hby at_273) rfl k_) ?_
          show own_Go p e below _ T175 (mkF m 275 #[.val (.int le), .val (.int ff), .val (.int tt), .val (.int mo), .val (.int (2 : Int32)), .val (.int (2 : Int32)), .val (.int r2), .val (.int r3), .val (.int r4), .val (.int r5), .val (.int r6), .val (.int r7), .val (.ref x8), .val (.ref x10), .val (.int (0 : Int32)), .val (.int (0 : Int32))] [(.int (0 : Int32)), (.int (0 : Int32))])
          refine own_st (fun t_ k_ => XS.icmpNo X175.here hx rfl (hb hby at_275) rfl (by decide) k_) ?_
          show own_Go p e below _ T175 (mkF m 278 #[.val (.int le), .val (.int ff), .val (.int tt), .val (.int mo), .val (.int (2 : Int32)), .val (.int (2 : Int32)), .val (.int r2), .val (.int r3), .val (.int r4), .val (.int r5), .val (.int r6), .val (.int r7), .val (.ref x8), .val (.ref x10), .val (.int (0 : Int32)), .val (.int (0 : Int32))] [])
          refine own_st (fun t_ k_ => XS.iconst X175.here hx rfl (hb hby at_278) k_) ?_
          show own_Go p e below _ T175 (mkF m 279 #[.val (.int le), .val (.int ff), .val (.int tt), .val (.int mo), .val (.int (2 : Int32)), .val (.int (2 : Int32)), .val (.int r2), .val (.int r3), .val (.int r4), .val (.int r5), .val (.int r6), .val (.int r7), .val (.ref x8), .val (.ref x10), .val (.int (0 : Int32)), .val (.int (0 : Int32))] [(.int (1 : Int32))])
          refine own_st (fun t_ k_ => XS.goto X175.here hx rfl (pc0 := 279) (pc' := 283) rfl (hb hby at_279) (by decide) (by decide) k_) ?_
          show own_Go p e below _ T175 (mkF m 283 #[.val (.int le), .val (.int ff), .val (.int tt), .val (.int mo), .val (.int (2 : Int32)), .val (.int (2 : Int32)), .val (.int r2), .val (.int r3), .val (.int r4), .val (.int r5), .val (.int r6), .val (.int r7), .val (.ref x8), .val (.ref x10), .val (.int (0 : Int32)), .val (.int (0 : Int32))] [(.int (1 : Int32))])
          refine own_retNS X175 hx hlk hZ hEL hh175 hh B147 (t := .boolean) Bd.returns (by simp) (hb hby at_283) ?_ (by decide) (by decide)
          show Q0 n0 _ T175.heap _
          rw [hh175]
          exact ⟨rfl, N175⟩
        · refine own_st (fun t_ k_ => XS.ifNo X144.here hx rfl (hb hby at_189) rfl ((if0 _ _).trans (feq hz145).1) k_) ?_
          show own_Go p e below _ T144 (mkF m 192 #[.val (.int le), .val (.int ff), .val (.int tt), .val (.int mo), .val (.int (2 : Int32)), .val (.int (2 : Int32)), .val (.int r2), .val (.int r3), .val (.int r4), .val (.int r5), .val (.int r6), .val (.int r7), .val (.ref x8), .val (.ref x10), .val (.int (1 : Int32)), .unset] [])
          refine own_st (fun t_ k_ => XS.iconst X144.here hx rfl (hb hby at_192) k_) ?_
          show own_Go p e below _ T144 (mkF m 193 #[.val (.int le), .val (.int ff), .val (.int tt), .val (.int mo), .val (.int (2 : Int32)), .val (.int (2 : Int32)), .val (.int r2), .val (.int r3), .val (.int r4), .val (.int r5), .val (.int r6), .val (.int r7), .val (.ref x8), .val (.ref x10), .val (.int (1 : Int32)), .unset] [(.int (1 : Int32))])
          refine own_st (fun t_ k_ => XS.goto X144.here hx rfl (pc0 := 193) (pc' := 197) rfl (hb hby at_193) (by decide) (by decide) k_) ?_
          show own_Go p e below _ T144 (mkF m 197 #[.val (.int le), .val (.int ff), .val (.int tt), .val (.int mo), .val (.int (2 : Int32)), .val (.int (2 : Int32)), .val (.int r2), .val (.int r3), .val (.int r4), .val (.int r5), .val (.int r6), .val (.int r7), .val (.ref x8), .val (.ref x10), .val (.int (1 : Int32)), .unset] [(.int (1 : Int32))])
          refine own_st (fun t_ k_ => XS.istore X144.here hx rfl (hb hby at_197) rfl (l' := #[.val (.int le), .val (.int ff), .val (.int tt), .val (.int mo), .val (.int (2 : Int32)), .val (.int (2 : Int32)), .val (.int r2), .val (.int r3), .val (.int r4), .val (.int r5), .val (.int r6), .val (.int r7), .val (.ref x8), .val (.ref x10), .val (.int (1 : Int32)), .unset]) rfl k_) ?_
          show own_Go p e below _ T144 (mkF m 199 #[.val (.int le), .val (.int ff), .val (.int tt), .val (.int mo), .val (.int (2 : Int32)), .val (.int (2 : Int32)), .val (.int r2), .val (.int r3), .val (.int r4), .val (.int r5), .val (.int r6), .val (.int r7), .val (.ref x8), .val (.ref x10), .val (.int (1 : Int32)), .unset] [])
          refine own_st (fun t_ k_ => XS.iload X144.here hx rfl (hb hby at_199) rfl k_) ?_
          show own_Go p e below _ T144 (mkF m 201 #[.val (.int le), .val (.int ff), .val (.int tt), .val (.int mo), .val (.int (2 : Int32)), .val (.int (2 : Int32)), .val (.int r2), .val (.int r3), .val (.int r4), .val (.int r5), .val (.int r6), .val (.int r7), .val (.ref x8), .val (.ref x10), .val (.int (1 : Int32)), .unset] [(.int (2 : Int32))])
          refine own_st (fun t_ k_ => XS.iconst X144.here hx rfl (hb hby at_201) k_) ?_
          show own_Go p e below _ T144 (mkF m 202 #[.val (.int le), .val (.int ff), .val (.int tt), .val (.int mo), .val (.int (2 : Int32)), .val (.int (2 : Int32)), .val (.int r2), .val (.int r3), .val (.int r4), .val (.int r5), .val (.int r6), .val (.int r7), .val (.ref x8), .val (.ref x10), .val (.int (1 : Int32)), .unset] [(.int (1 : Int32)), (.int (2 : Int32))])
          refine own_st (fun t_ k_ => XS.icmpNo X144.here hx rfl (hb hby at_202) rfl (by decide) k_) ?_
          show own_Go p e below _ T144 (mkF m 205 #[.val (.int le), .val (.int ff), .val (.int tt), .val (.int mo), .val (.int (2 : Int32)), .val (.int (2 : Int32)), .val (.int r2), .val (.int r3), .val (.int r4), .val (.int r5), .val (.int r6), .val (.int r7), .val (.ref x8), .val (.ref x10), .val (.int (1 : Int32)), .unset] [])
          refine own_st (fun t_ k_ => XS.iload X144.here hx rfl (hb hby at_205) rfl k_) ?_
          show own_Go p e below _ T144 (mkF m 207 #[.val (.int le), .val (.int ff), .val (.int tt), .val (.int mo), .val (.int (2 : Int32)), .val (.int (2 : Int32)), .val (.int r2), .val (.int r3), .val (.int r4), .val (.int r5), .val (.int r6), .val (.int r7), .val (.ref x8), .val (.ref x10), .val (.int (1 : Int32)), .unset] [(.int (1 : Int32))])
          refine own_st (fun t_ k_ => XS.ifNo X144.here hx rfl (hb hby at_207) rfl (by decide) k_) ?_
          show own_Go p e below _ T144 (mkF m 210 #[.val (.int le), .val (.int ff), .val (.int tt), .val (.int mo), .val (.int (2 : Int32)), .val (.int (2 : Int32)), .val (.int r2), .val (.int r3), .val (.int r4), .val (.int r5), .val (.int r6), .val (.int r7), .val (.ref x8), .val (.ref x10), .val (.int (1 : Int32)), .unset] [])
          refine own_st (fun t_ k_ => XS.iload X144.here hx rfl (hb hby at_210) rfl k_) ?_
          show own_Go p e below _ T144 (mkF m 212 #[.val (.int le), .val (.int ff), .val (.int tt), .val (.int mo), .val (.int (2 : Int32)), .val (.int (2 : Int32)), .val (.int r2), .val (.int r3), .val (.int r4), .val (.int r5), .val (.int r6), .val (.int r7), .val (.ref x8), .val (.ref x10), .val (.int (1 : Int32)), .unset] [(.int r3)])
          refine own_st (fun t_ k_ => XS.iload X144.here hx rfl (hb hby at_212) rfl k_) ?_
          show own_Go p e below _ T144 (mkF m 214 #[.val (.int le), .val (.int ff), .val (.int tt), .val (.int mo), .val (.int (2 : Int32)), .val (.int (2 : Int32)), .val (.int r2), .val (.int r3), .val (.int r4), .val (.int r5), .val (.int r6), .val (.int r7), .val (.ref x8), .val (.ref x10), .val (.int (1 : Int32)), .unset] [(.int r6), (.int r3)])
          refine own_callS X144 hx (y := (⟨"com/example/hebelwerk/hebelwerk/io/FixedFormMatchesPinLaw", "fits", "(CC)Z"⟩ : MethodName)) hown (mvT hZ (hw _ (List.mem_of_getElem? (i := 67) rfl))) (mvT hZ (hw _ (List.mem_of_getElem? (i := 68) rfl))) (mvT hZ (hw _ (List.mem_of_getElem? (i := 2) rfl))) (mvT hZ (hw _ (List.mem_of_getElem? (i := 69) rfl))) (by decide) (backOf (W := 0) (rmFI l Z a0 hw [] r3 r6 T10.heap n0 (Nat.le_trans Z0 K10.1)) hZ (hw _ (List.mem_of_getElem? (i := 69) rfl)) (hw _ (List.mem_of_getElem? (i := 2) rfl)) (by decide) (by decide)) (g := (mkF m 214 #[.val (.int le), .val (.int ff), .val (.int tt), .val (.int mo), .val (.int (2 : Int32)), .val (.int (2 : Int32)), .val (.int r2), .val (.int r3), .val (.int r4), .val (.int r5), .val (.int r6), .val (.int r7), .val (.ref x8), .val (.ref x10), .val (.int (1 : Int32)), .unset] [(.int r6), (.int r3)])) rfl (by rw [hml]; rfl) (argsL := [(.int r3), (.int r6)]) (rest := []) (lenOf pd_10 rfl) rfl (by show 2 * 0 + _ ≤ _; exact Nat.le_of_eq rfl) (hb hby at_214) rfl hh144 (by decide) (by decide) ?_
          rintro v177 T177 L177 X177 ⟨rfl, Nq177, hh177⟩
          have N177 := Fr.app N144 Nq177
          show own_Go p e below _ T177 (mkF m 217 #[.val (.int le), .val (.int ff), .val (.int tt), .val (.int mo), .val (.int (2 : Int32)), .val (.int (2 : Int32)), .val (.int r2), .val (.int r3), .val (.int r4), .val (.int r5), .val (.int r6), .val (.int r7), .val (.ref x8), .val (.ref x10), .val (.int (1 : Int32)), .unset] [(.int (own_fits r3 r6))])
          by_cases hz178 : (own_fits r3 r6) = (0 : Int32)
          · refine own_st (fun t_ k_ => XS.ifYes X177.here hx rfl (pc0 := 217) (pc' := 224) rfl (hb hby at_217) rfl ((if0 _ _).trans (teq hz178).1) (by decide) (by decide) k_) ?_
            show own_Go p e below _ T177 (mkF m 224 #[.val (.int le), .val (.int ff), .val (.int tt), .val (.int mo), .val (.int (2 : Int32)), .val (.int (2 : Int32)), .val (.int r2), .val (.int r3), .val (.int r4), .val (.int r5), .val (.int r6), .val (.int r7), .val (.ref x8), .val (.ref x10), .val (.int (1 : Int32)), .unset] [])
            refine own_st (fun t_ k_ => XS.iconst X177.here hx rfl (hb hby at_224) k_) ?_
            show own_Go p e below _ T177 (mkF m 225 #[.val (.int le), .val (.int ff), .val (.int tt), .val (.int mo), .val (.int (2 : Int32)), .val (.int (2 : Int32)), .val (.int r2), .val (.int r3), .val (.int r4), .val (.int r5), .val (.int r6), .val (.int r7), .val (.ref x8), .val (.ref x10), .val (.int (1 : Int32)), .unset] [(.int (0 : Int32))])
            refine own_st (fun t_ k_ => XS.istore X177.here hx rfl (hb hby at_225) rfl (l' := #[.val (.int le), .val (.int ff), .val (.int tt), .val (.int mo), .val (.int (2 : Int32)), .val (.int (2 : Int32)), .val (.int r2), .val (.int r3), .val (.int r4), .val (.int r5), .val (.int r6), .val (.int r7), .val (.ref x8), .val (.ref x10), .val (.int (0 : Int32)), .unset]) rfl k_) ?_
            show own_Go p e below _ T177 (mkF m 227 #[.val (.int le), .val (.int ff), .val (.int tt), .val (.int mo), .val (.int (2 : Int32)), .val (.int (2 : Int32)), .val (.int r2), .val (.int r3), .val (.int r4), .val (.int r5), .val (.int r6), .val (.int r7), .val (.ref x8), .val (.ref x10), .val (.int (0 : Int32)), .unset] [])
            refine own_st (fun t_ k_ => XS.iload X177.here hx rfl (hb hby at_227) rfl k_) ?_
            show own_Go p e below _ T177 (mkF m 229 #[.val (.int le), .val (.int ff), .val (.int tt), .val (.int mo), .val (.int (2 : Int32)), .val (.int (2 : Int32)), .val (.int r2), .val (.int r3), .val (.int r4), .val (.int r5), .val (.int r6), .val (.int r7), .val (.ref x8), .val (.ref x10), .val (.int (0 : Int32)), .unset] [(.int (2 : Int32))])
            refine own_st (fun t_ k_ => XS.iconst X177.here hx rfl (hb hby at_229) k_) ?_
            show own_Go p e below _ T177 (mkF m 230 #[.val (.int le), .val (.int ff), .val (.int tt), .val (.int mo), .val (.int (2 : Int32)), .val (.int (2 : Int32)), .val (.int r2), .val (.int r3), .val (.int r4), .val (.int r5), .val (.int r6), .val (.int r7), .val (.ref x8), .val (.ref x10), .val (.int (0 : Int32)), .unset] [(.int (2 : Int32)), (.int (2 : Int32))])
            refine own_st (fun t_ k_ => XS.icmpYes X177.here hx rfl (pc0 := 230) (pc' := 255) rfl (hb hby at_230) rfl (by decide) (by decide) (by decide) k_) ?_
            show own_Go p e below _ T177 (mkF m 255 #[.val (.int le), .val (.int ff), .val (.int tt), .val (.int mo), .val (.int (2 : Int32)), .val (.int (2 : Int32)), .val (.int r2), .val (.int r3), .val (.int r4), .val (.int r5), .val (.int r6), .val (.int r7), .val (.ref x8), .val (.ref x10), .val (.int (0 : Int32)), .unset] [])
            obtain ⟨T179, h179, X179, e179, E179, A179, D179, cel179, st179⟩ := newO X177 hx hZ hown (hw _ (List.mem_of_getElem? (i := 32) rfl)) (hw _ (List.mem_of_getElem? (i := 33) rfl)) (hw _ (List.mem_of_getElem? (i := 34) rfl)) hh177 (g := (mkF m 255 #[.val (.int le), .val (.int ff), .val (.int tt), .val (.int mo), .val (.int (2 : Int32)), .val (.int (2 : Int32)), .val (.int r2), .val (.int r3), .val (.int r4), .val (.int r5), .val (.int r6), .val (.int r7), .val (.ref x8), .val (.ref x10), .val (.int (0 : Int32)), .unset] [])) rfl (hb hby at_255) (by decide) (by decide)
            obtain ⟨nb179, g179⟩ : ∃ z, z = T10.heap.size := ⟨_, rfl⟩
            rw [← g179] at A179 D179 cel179 st179
            refine own_st st179 ?_
            have g_nb179 : n0 ≤ nb179 := Nat.le_trans (Nat.le_trans Z0 K10.1) (Nat.le_of_eq g179.symm)
            have K179 : Keep h0 h179 [] := K10.ext E179
            have sz_nb179 : h0.size ≤ nb179 := Nat.le_trans K10.1 (Nat.le_of_eq g179.symm)
            have B179 := own_Bk.ext E179 B10
            have Sf179 := Safe.ext E179 (own_Bk.ch B10) (Safe.new (Nat.le_of_eq g179.symm))
            have F179_form : Fld Z h179 nb179 "com/example/hebelwerk/hebelwerk/io/FixedForm" "form" "Ljava/lang/String;" .null := D179 (Or.inr (hw _ (List.mem_of_getElem? (i := 40) rfl))) (ty := (.object "java/lang/String")) (by decide)
            show own_Go p e below _ T179 (mkF m 258 #[.val (.int le), .val (.int ff), .val (.int tt), .val (.int mo), .val (.int (2 : Int32)), .val (.int (2 : Int32)), .val (.int r2), .val (.int r3), .val (.int r4), .val (.int r5), .val (.int r6), .val (.int r7), .val (.ref x8), .val (.ref x10), .val (.int (0 : Int32)), .unset] [(.ref nb179)])
            refine own_st (fun t_ k_ => XS.dup X179.here hx rfl (hb hby at_258) rfl rfl k_) ?_
            show own_Go p e below _ T179 (mkF m 259 #[.val (.int le), .val (.int ff), .val (.int tt), .val (.int mo), .val (.int (2 : Int32)), .val (.int (2 : Int32)), .val (.int r2), .val (.int r3), .val (.int r4), .val (.int r5), .val (.int r6), .val (.int r7), .val (.ref x8), .val (.ref x10), .val (.int (0 : Int32)), .unset] [(.ref nb179), (.ref nb179)])
            refine own_st (fun t_ k_ => XS.aload X179.here hx rfl (hb hby at_259) rfl rfl k_) ?_
            show own_Go p e below _ T179 (mkF m 261 #[.val (.int le), .val (.int ff), .val (.int tt), .val (.int mo), .val (.int (2 : Int32)), .val (.int (2 : Int32)), .val (.int r2), .val (.int r3), .val (.int r4), .val (.int r5), .val (.int r6), .val (.int r7), .val (.ref x8), .val (.ref x10), .val (.int (0 : Int32)), .unset] [(.ref x8), (.ref nb179), (.ref nb179)])
            refine own_callN X179 hx (y := (⟨"com/example/hebelwerk/hebelwerk/io/FixedForm", "<init>", "(Ljava/lang/String;)V"⟩ : MethodName)) rfl hown (mvT hZ (hw _ (List.mem_of_getElem? (i := 35) rfl))) (mvT hZ (hw _ (List.mem_of_getElem? (i := 36) rfl))) (mvT hZ (hw _ (List.mem_of_getElem? (i := 37) rfl))) (by decide) (backOf (W := 1) (rmCI l Z a0 hw [] nb179 x8 h179 n0 (Nat.le_trans Z0 K179.1) g_nb179 A179 F179_form) hZ (hw _ (List.mem_of_getElem? (i := 37) rfl)) (hw _ (List.mem_of_getElem? (i := 34) rfl)) (by decide) (by decide)) (a := nb179) (g := (mkF m 261 #[.val (.int le), .val (.int ff), .val (.int tt), .val (.int mo), .val (.int (2 : Int32)), .val (.int (2 : Int32)), .val (.int r2), .val (.int r3), .val (.int r4), .val (.int r5), .val (.int r6), .val (.int r7), .val (.ref x8), .val (.ref x10), .val (.int (0 : Int32)), .unset] [(.ref x8), (.ref nb179), (.ref nb179)])) rfl (by rw [hml]; rfl) (argsL := [(.ref x8)]) (rest := [(.ref nb179)]) (lenOf pd_8 rfl) rfl (by show 2 * 0 + _ ≤ _; exact Nat.le_of_eq rfl) (hb hby at_261) rfl e179 (by decide) (by decide) ?_
            rintro v180 T180 L180 X180 ⟨rfl, Nq180, Kq180, Eq180, Fk180⟩
            have N180 := Fr.app N177 Nq180
            have K180 : Keep h0 T180.heap [] := K179.trans Kq180 (allS (Or.inr sz_nb179) all0)
            have B180 := own_Bk.keep Kq180 (sfS Sf179 sf0) B179
            show own_Go p e below _ T180 (mkF m 264 #[.val (.int le), .val (.int ff), .val (.int tt), .val (.int mo), .val (.int (2 : Int32)), .val (.int (2 : Int32)), .val (.int r2), .val (.int r3), .val (.int r4), .val (.int r5), .val (.int r6), .val (.int r7), .val (.ref x8), .val (.ref x10), .val (.int (0 : Int32)), .unset] [(.ref nb179)])
            refine own_st (fun t_ k_ => XS.aload X180.here hx rfl (hb hby at_264) rfl rfl k_) ?_
            show own_Go p e below _ T180 (mkF m 266 #[.val (.int le), .val (.int ff), .val (.int tt), .val (.int mo), .val (.int (2 : Int32)), .val (.int (2 : Int32)), .val (.int r2), .val (.int r3), .val (.int r4), .val (.int r5), .val (.int r6), .val (.int r7), .val (.ref x8), .val (.ref x10), .val (.int (0 : Int32)), .unset] [(.ref x10), (.ref nb179)])
            have f181 := (f9.keep Kq10 all0)
            have f182 := (f181.ext E179)
            have f183 := (f182.keep Kq180 (allS g_nb179 all0))
            have f184 := (Ex8.keep Kq10)
            have f185 := (Exa.ext E179 f184)
            have f186 := (f185.keep Kq180)
            have f187 := (Cq8.keep Kq10 nin0)
            have f188 := (Fld.ext E179 f187)
            have ne189 : x8 ≠ nb179 := (Nat.ne_of_lt (Nat.lt_of_lt_of_le f184.lt (Nat.le_of_eq g179.symm)))
            have f190 := (f188.keep Kq180 (ninS ne189 nin0))
            have f191 := (Vq8.keep Kq10 nin0)
            have f192 := (Fld.ext E179 f191)
            have f193 := (f192.keep Kq180 (ninS ne189 nin0))
            have f194 := (Aq8.keep Kq10 nin0)
            have f195 := (f194.ext E179)
            have ne196 : t8 ≠ nb179 := (Nat.ne_of_lt (Nat.lt_of_lt_of_le f194.lt (Nat.le_of_eq g179.symm)))
            have f197 := (f195.keep Kq180 (ninS ne196 nin0))
            have f198 := (Exa.ext E179 Ex10)
            have f199 := (f198.keep Kq180)
            have f200 := (Fld.ext E179 Cq10)
            have ne201 : x10 ≠ nb179 := (Nat.ne_of_lt (Nat.lt_of_lt_of_le Ex10.lt (Nat.le_of_eq g179.symm)))
            have f202 := (f200.keep Kq180 (ninS ne201 nin0))
            have f203 := (Fld.ext E179 Vq10)
            have f204 := (f203.keep Kq180 (ninS ne201 nin0))
            have f205 := (Aq10.ext E179)
            have ne206 : t10 ≠ nb179 := (Nat.ne_of_lt (Nat.lt_of_lt_of_le Aq10.lt (Nat.le_of_eq g179.symm)))
            have f207 := (f205.keep Kq180 (ninS ne206 nin0))
            obtain ⟨cq209, kq209, q209a, q209b, q209c⟩ := isOf hZ rfl Eq180
            refine own_callV X180 hx (y := (⟨"com/example/hebelwerk/hebelwerk/io/FixedForm", "matches", "(Ljava/lang/String;)Z"⟩ : MethodName)) (z := (⟨"com/example/hebelwerk/hebelwerk/io/FixedForm", "matches", "(Ljava/lang/String;)Z"⟩ : MethodName)) hown (mvT hZ (hw _ (List.mem_of_getElem? (i := 41) rfl))) (mvT hZ (hw _ (List.mem_of_getElem? (i := 42) rfl))) (notFace_of_selects (args := #[]) (mvT hZ (hw _ (List.mem_of_getElem? (i := 44) rfl)))) (mvT hZ (hw _ (List.mem_of_getElem? (i := 44) rfl))) (mvT hZ (hw _ (List.mem_of_getElem? (i := 43) rfl))) (by decide) (backOf (W := 0) (rmM2 l Z a0 hw [] nb179 x8 t8 x10 t10 kb8 kb10 (own_str (2 : Int32) [r2, r3, r4]) (own_str (2 : Int32) [r5, r6, r7]) G fm r2 r3 r5 r6 (0 : Int32) T180.heap n0 (Nat.le_trans Z0 K180.1) SC hCS f183 SF rG Eq180 Fk180 f186 f190 f193 f197 hp8 (own_strl (2 : Int32) r2 r3 r4) f199 f202 f204 f207 hp10 (own_strl (2 : Int32) r5 r6 r7) rfl rfl (by rw [if_neg hz145, if_pos hz178])) hZ (hw _ (List.mem_of_getElem? (i := 45) rfl)) (hw _ (List.mem_of_getElem? (i := 34) rfl)) (by decide) (by decide)) q209a q209c (g := (mkF m 266 #[.val (.int le), .val (.int ff), .val (.int tt), .val (.int mo), .val (.int (2 : Int32)), .val (.int (2 : Int32)), .val (.int r2), .val (.int r3), .val (.int r4), .val (.int r5), .val (.int r6), .val (.int r7), .val (.ref x8), .val (.ref x10), .val (.int (0 : Int32)), .unset] [(.ref x10), (.ref nb179)])) rfl (by rw [hml]; rfl) (argsL := [(.ref x10)]) (rest := []) (lenOf pd_9 rfl) rfl (by show 2 * 0 + _ ≤ _; exact Nat.le_of_eq rfl) (hb hby at_266) rfl rfl (by decide) (by decide) ?_
            rintro v208 T208 L208 X208 ⟨rfl, Nq208, hh208⟩
            have N208 := Fr.app N180 Nq208
            show own_Go p e below _ T208 (mkF m 269 #[.val (.int le), .val (.int ff), .val (.int tt), .val (.int mo), .val (.int (2 : Int32)), .val (.int (2 : Int32)), .val (.int r2), .val (.int r3), .val (.int r4), .val (.int r5), .val (.int r6), .val (.int r7), .val (.ref x8), .val (.ref x10), .val (.int (0 : Int32)), .unset] [(.int (0 : Int32))])
            refine own_st (fun t_ k_ => XS.istore X208.here hx rfl (hb hby at_269) rfl (l' := #[.val (.int le), .val (.int ff), .val (.int tt), .val (.int mo), .val (.int (2 : Int32)), .val (.int (2 : Int32)), .val (.int r2), .val (.int r3), .val (.int r4), .val (.int r5), .val (.int r6), .val (.int r7), .val (.ref x8), .val (.ref x10), .val (.int (0 : Int32)), .val (.int (0 : Int32))]) rfl k_) ?_
            show own_Go p e below _ T208 (mkF m 271 #[.val (.int le), .val (.int ff), .val (.int tt), .val (.int mo), .val (.int (2 : Int32)), .val (.int (2 : Int32)), .val (.int r2), .val (.int r3), .val (.int r4), .val (.int r5), .val (.int r6), .val (.int r7), .val (.ref x8), .val (.ref x10), .val (.int (0 : Int32)), .val (.int (0 : Int32))] [])
            refine own_st (fun t_ k_ => XS.iload X208.here hx rfl (hb hby at_271) rfl k_) ?_
            show own_Go p e below _ T208 (mkF m 273 #[.val (.int le), .val (.int ff), .val (.int tt), .val (.int mo), .val (.int (2 : Int32)), .val (.int (2 : Int32)), .val (.int r2), .val (.int r3), .val (.int r4), .val (.int r5), .val (.int r6), .val (.int r7), .val (.ref x8), .val (.ref x10), .val (.int (0 : Int32)), .val (.int (0 : Int32))] [(.int (0 : Int32))])
            refine own_st (fun t_ k_ => XS.iload X208.here hx rfl (hb hby at_273) rfl k_) ?_
            show own_Go p e below _ T208 (mkF m 275 #[.val (.int le), .val (.int ff), .val (.int tt), .val (.int mo), .val (.int (2 : Int32)), .val (.int (2 : Int32)), .val (.int r2), .val (.int r3), .val (.int r4), .val (.int r5), .val (.int r6), .val (.int r7), .val (.ref x8), .val (.ref x10), .val (.int (0 : Int32)), .val (.int (0 : Int32))] [(.int (0 : Int32)), (.int (0 : Int32))])
            refine own_st (fun t_ k_ => XS.icmpNo X208.here hx rfl (hb hby at_275) rfl (by decide) k_) ?_
            show own_Go p e below _ T208 (mkF m 278 #[.val (.int le), .val (.int ff), .val (.int tt), .val (.int mo), .val (.int (2 : Int32)), .val (.int (2 : Int32)), .val (.int r2), .val (.int r3), .val (.int r4), .val (.int r5), .val (.int r6), .val (.int r7), .val (.ref x8), .val (.ref x10), .val (.int (0 : Int32)), .val (.int (0 : Int32))] [])
            refine own_st (fun t_ k_ => XS.iconst X208.here hx rfl (hb hby at_278) k_) ?_
            show own_Go p e below _ T208 (mkF m 279 #[.val (.int le), .val (.int ff), .val (.int tt), .val (.int mo), .val (.int (2 : Int32)), .val (.int (2 : Int32)), .val (.int r2), .val (.int r3), .val (.int r4), .val (.int r5), .val (.int r6), .val (.int r7), .val (.ref x8), .val (.ref x10), .val (.int (0 : Int32)), .val (.int (0 : Int32))] [(.int (1 : Int32))])
            refine own_st (fun t_ k_ => XS.goto X208.here hx rfl (pc0 := 279) (pc' := 283) rfl (hb hby at_279) (by decide) (by decide) k_) ?_
            show own_Go p e below _ T208 (mkF m 283 #[.val (.int le), .val (.int ff), .val (.int tt), .val (.int mo), .val (.int (2 : Int32)), .val (.int (2 : Int32)), .val (.int r2), .val (.int r3), .val (.int r4), .val (.int r5), .val (.int r6), .val (.int r7), .val (.ref x8), .val (.ref x10), .val (.int (0 : Int32)), .val (.int (0 : Int32))] [(.int (1 : Int32))])
            refine own_retNS X208 hx hlk hZ hEL hh208 hh B180 (t := .boolean) Bd.returns (by simp) (hb hby at_283) ?_ (by decide) (by decide)
            show Q0 n0 _ T208.heap _
            rw [hh208]
            exact ⟨rfl, N208⟩
          · refine own_st (fun t_ k_ => XS.ifNo X177.here hx rfl (hb hby at_217) rfl ((if0 _ _).trans (feq hz178).1) k_) ?_
            show own_Go p e below _ T177 (mkF m 220 #[.val (.int le), .val (.int ff), .val (.int tt), .val (.int mo), .val (.int (2 : Int32)), .val (.int (2 : Int32)), .val (.int r2), .val (.int r3), .val (.int r4), .val (.int r5), .val (.int r6), .val (.int r7), .val (.ref x8), .val (.ref x10), .val (.int (1 : Int32)), .unset] [])
            refine own_st (fun t_ k_ => XS.iconst X177.here hx rfl (hb hby at_220) k_) ?_
            show own_Go p e below _ T177 (mkF m 221 #[.val (.int le), .val (.int ff), .val (.int tt), .val (.int mo), .val (.int (2 : Int32)), .val (.int (2 : Int32)), .val (.int r2), .val (.int r3), .val (.int r4), .val (.int r5), .val (.int r6), .val (.int r7), .val (.ref x8), .val (.ref x10), .val (.int (1 : Int32)), .unset] [(.int (1 : Int32))])
            refine own_st (fun t_ k_ => XS.goto X177.here hx rfl (pc0 := 221) (pc' := 225) rfl (hb hby at_221) (by decide) (by decide) k_) ?_
            show own_Go p e below _ T177 (mkF m 225 #[.val (.int le), .val (.int ff), .val (.int tt), .val (.int mo), .val (.int (2 : Int32)), .val (.int (2 : Int32)), .val (.int r2), .val (.int r3), .val (.int r4), .val (.int r5), .val (.int r6), .val (.int r7), .val (.ref x8), .val (.ref x10), .val (.int (1 : Int32)), .unset] [(.int (1 : Int32))])
            refine own_st (fun t_ k_ => XS.istore X177.here hx rfl (hb hby at_225) rfl (l' := #[.val (.int le), .val (.int ff), .val (.int tt), .val (.int mo), .val (.int (2 : Int32)), .val (.int (2 : Int32)), .val (.int r2), .val (.int r3), .val (.int r4), .val (.int r5), .val (.int r6), .val (.int r7), .val (.ref x8), .val (.ref x10), .val (.int (1 : Int32)), .unset]) rfl k_) ?_
            show own_Go p e below _ T177 (mkF m 227 #[.val (.int le), .val (.int ff), .val (.int tt), .val (.int mo), .val (.int (2 : Int32)), .val (.int (2 : Int32)), .val (.int r2), .val (.int r3), .val (.int r4), .val (.int r5), .val (.int r6), .val (.int r7), .val (.ref x8), .val (.ref x10), .val (.int (1 : Int32)), .unset] [])
            refine own_st (fun t_ k_ => XS.iload X177.here hx rfl (hb hby at_227) rfl k_) ?_
            show own_Go p e below _ T177 (mkF m 229 #[.val (.int le), .val (.int ff), .val (.int tt), .val (.int mo), .val (.int (2 : Int32)), .val (.int (2 : Int32)), .val (.int r2), .val (.int r3), .val (.int r4), .val (.int r5), .val (.int r6), .val (.int r7), .val (.ref x8), .val (.ref x10), .val (.int (1 : Int32)), .unset] [(.int (2 : Int32))])
            refine own_st (fun t_ k_ => XS.iconst X177.here hx rfl (hb hby at_229) k_) ?_
            show own_Go p e below _ T177 (mkF m 230 #[.val (.int le), .val (.int ff), .val (.int tt), .val (.int mo), .val (.int (2 : Int32)), .val (.int (2 : Int32)), .val (.int r2), .val (.int r3), .val (.int r4), .val (.int r5), .val (.int r6), .val (.int r7), .val (.ref x8), .val (.ref x10), .val (.int (1 : Int32)), .unset] [(.int (2 : Int32)), (.int (2 : Int32))])
            refine own_st (fun t_ k_ => XS.icmpYes X177.here hx rfl (pc0 := 230) (pc' := 255) rfl (hb hby at_230) rfl (by decide) (by decide) (by decide) k_) ?_
            show own_Go p e below _ T177 (mkF m 255 #[.val (.int le), .val (.int ff), .val (.int tt), .val (.int mo), .val (.int (2 : Int32)), .val (.int (2 : Int32)), .val (.int r2), .val (.int r3), .val (.int r4), .val (.int r5), .val (.int r6), .val (.int r7), .val (.ref x8), .val (.ref x10), .val (.int (1 : Int32)), .unset] [])
            obtain ⟨T210, h210, X210, e210, E210, A210, D210, cel210, st210⟩ := newO X177 hx hZ hown (hw _ (List.mem_of_getElem? (i := 32) rfl)) (hw _ (List.mem_of_getElem? (i := 33) rfl)) (hw _ (List.mem_of_getElem? (i := 34) rfl)) hh177 (g := (mkF m 255 #[.val (.int le), .val (.int ff), .val (.int tt), .val (.int mo), .val (.int (2 : Int32)), .val (.int (2 : Int32)), .val (.int r2), .val (.int r3), .val (.int r4), .val (.int r5), .val (.int r6), .val (.int r7), .val (.ref x8), .val (.ref x10), .val (.int (1 : Int32)), .unset] [])) rfl (hb hby at_255) (by decide) (by decide)
            obtain ⟨nb210, g210⟩ : ∃ z, z = T10.heap.size := ⟨_, rfl⟩
            rw [← g210] at A210 D210 cel210 st210
            refine own_st st210 ?_
            have g_nb210 : n0 ≤ nb210 := Nat.le_trans (Nat.le_trans Z0 K10.1) (Nat.le_of_eq g210.symm)
            have K210 : Keep h0 h210 [] := K10.ext E210
            have sz_nb210 : h0.size ≤ nb210 := Nat.le_trans K10.1 (Nat.le_of_eq g210.symm)
            have B210 := own_Bk.ext E210 B10
            have Sf210 := Safe.ext E210 (own_Bk.ch B10) (Safe.new (Nat.le_of_eq g210.symm))
            have F210_form : Fld Z h210 nb210 "com/example/hebelwerk/hebelwerk/io/FixedForm" "form" "Ljava/lang/String;" .null := D210 (Or.inr (hw _ (List.mem_of_getElem? (i := 40) rfl))) (ty := (.object "java/lang/String")) (by decide)
            show own_Go p e below _ T210 (mkF m 258 #[.val (.int le), .val (.int ff), .val (.int tt), .val (.int mo), .val (.int (2 : Int32)), .val (.int (2 : Int32)), .val (.int r2), .val (.int r3), .val (.int r4), .val (.int r5), .val (.int r6), .val (.int r7), .val (.ref x8), .val (.ref x10), .val (.int (1 : Int32)), .unset] [(.ref nb210)])
            refine own_st (fun t_ k_ => XS.dup X210.here hx rfl (hb hby at_258) rfl rfl k_) ?_
            show own_Go p e below _ T210 (mkF m 259 #[.val (.int le), .val (.int ff), .val (.int tt), .val (.int mo), .val (.int (2 : Int32)), .val (.int (2 : Int32)), .val (.int r2), .val (.int r3), .val (.int r4), .val (.int r5), .val (.int r6), .val (.int r7), .val (.ref x8), .val (.ref x10), .val (.int (1 : Int32)), .unset] [(.ref nb210), (.ref nb210)])
            refine own_st (fun t_ k_ => XS.aload X210.here hx rfl (hb hby at_259) rfl rfl k_) ?_
            show own_Go p e below _ T210 (mkF m 261 #[.val (.int le), .val (.int ff), .val (.int tt), .val (.int mo), .val (.int (2 : Int32)), .val (.int (2 : Int32)), .val (.int r2), .val (.int r3), .val (.int r4), .val (.int r5), .val (.int r6), .val (.int r7), .val (.ref x8), .val (.ref x10), .val (.int (1 : Int32)), .unset] [(.ref x8), (.ref nb210), (.ref nb210)])
            refine own_callN X210 hx (y := (⟨"com/example/hebelwerk/hebelwerk/io/FixedForm", "<init>", "(Ljava/lang/String;)V"⟩ : MethodName)) rfl hown (mvT hZ (hw _ (List.mem_of_getElem? (i := 35) rfl))) (mvT hZ (hw _ (List.mem_of_getElem? (i := 36) rfl))) (mvT hZ (hw _ (List.mem_of_getElem? (i := 37) rfl))) (by decide) (backOf (W := 1) (rmCI l Z a0 hw [] nb210 x8 h210 n0 (Nat.le_trans Z0 K210.1) g_nb210 A210 F210_form) hZ (hw _ (List.mem_of_getElem? (i := 37) rfl)) (hw _ (List.mem_of_getElem? (i := 34) rfl)) (by decide) (by decide)) (a := nb210) (g := (mkF m 261 #[.val (.int le), .val (.int ff), .val (.int tt), .val (.int mo), .val (.int (2 : Int32)), .val (.int (2 : Int32)), .val (.int r2), .val (.int r3), .val (.int r4), .val (.int r5), .val (.int r6), .val (.int r7), .val (.ref x8), .val (.ref x10), .val (.int (1 : Int32)), .unset] [(.ref x8), (.ref nb210), (.ref nb210)])) rfl (by rw [hml]; rfl) (argsL := [(.ref x8)]) (rest := [(.ref nb210)]) (lenOf pd_8 rfl) rfl (by show 2 * 0 + _ ≤ _; exact Nat.le_of_eq rfl) (hb hby at_261) rfl e210 (by decide) (by decide) ?_
            rintro v211 T211 L211 X211 ⟨rfl, Nq211, Kq211, Eq211, Fk211⟩
            have N211 := Fr.app N177 Nq211
            have K211 : Keep h0 T211.heap [] := K210.trans Kq211 (allS (Or.inr sz_nb210) all0)
            have B211 := own_Bk.keep Kq211 (sfS Sf210 sf0) B210
            show own_Go p e below _ T211 (mkF m 264 #[.val (.int le), .val (.int ff), .val (.int tt), .val (.int mo), .val (.int (2 : Int32)), .val (.int (2 : Int32)), .val (.int r2), .val (.int r3), .val (.int r4), .val (.int r5), .val (.int r6), .val (.int r7), .val (.ref x8), .val (.ref x10), .val (.int (1 : Int32)), .unset] [(.ref nb210)])
            refine own_st (fun t_ k_ => XS.aload X211.here hx rfl (hb hby at_264) rfl rfl k_) ?_
            show own_Go p e below _ T211 (mkF m 266 #[.val (.int le), .val (.int ff), .val (.int tt), .val (.int mo), .val (.int (2 : Int32)), .val (.int (2 : Int32)), .val (.int r2), .val (.int r3), .val (.int r4), .val (.int r5), .val (.int r6), .val (.int r7), .val (.ref x8), .val (.ref x10), .val (.int (1 : Int32)), .unset] [(.ref x10), (.ref nb210)])
            have f212 := (f9.keep Kq10 all0)
            have f213 := (f212.ext E210)
            have f214 := (f213.keep Kq211 (allS g_nb210 all0))
            have f215 := (Ex8.keep Kq10)
            have f216 := (Exa.ext E210 f215)
            have f217 := (f216.keep Kq211)
            have f218 := (Cq8.keep Kq10 nin0)
            have f219 := (Fld.ext E210 f218)
            have ne220 : x8 ≠ nb210 := (Nat.ne_of_lt (Nat.lt_of_lt_of_le f215.lt (Nat.le_of_eq g210.symm)))
            have f221 := (f219.keep Kq211 (ninS ne220 nin0))
            have f222 := (Vq8.keep Kq10 nin0)
            have f223 := (Fld.ext E210 f222)
            have f224 := (f223.keep Kq211 (ninS ne220 nin0))
            have f225 := (Aq8.keep Kq10 nin0)
            have f226 := (f225.ext E210)
            have ne227 : t8 ≠ nb210 := (Nat.ne_of_lt (Nat.lt_of_lt_of_le f225.lt (Nat.le_of_eq g210.symm)))
            have f228 := (f226.keep Kq211 (ninS ne227 nin0))
            have f229 := (Exa.ext E210 Ex10)
            have f230 := (f229.keep Kq211)
            have f231 := (Fld.ext E210 Cq10)
            have ne232 : x10 ≠ nb210 := (Nat.ne_of_lt (Nat.lt_of_lt_of_le Ex10.lt (Nat.le_of_eq g210.symm)))
            have f233 := (f231.keep Kq211 (ninS ne232 nin0))
            have f234 := (Fld.ext E210 Vq10)
            have f235 := (f234.keep Kq211 (ninS ne232 nin0))
            have f236 := (Aq10.ext E210)
            have ne237 : t10 ≠ nb210 := (Nat.ne_of_lt (Nat.lt_of_lt_of_le Aq10.lt (Nat.le_of_eq g210.symm)))
            have f238 := (f236.keep Kq211 (ninS ne237 nin0))
            obtain ⟨cq240, kq240, q240a, q240b, q240c⟩ := isOf hZ rfl Eq211
            refine own_callV X211 hx (y := (⟨"com/example/hebelwerk/hebelwerk/io/FixedForm", "matches", "(Ljava/lang/String;)Z"⟩ : MethodName)) (z := (⟨"com/example/hebelwerk/hebelwerk/io/FixedForm", "matches", "(Ljava/lang/String;)Z"⟩ : MethodName)) hown (mvT hZ (hw _ (List.mem_of_getElem? (i := 41) rfl))) (mvT hZ (hw _ (List.mem_of_getElem? (i := 42) rfl))) (notFace_of_selects (args := #[]) (mvT hZ (hw _ (List.mem_of_getElem? (i := 44) rfl)))) (mvT hZ (hw _ (List.mem_of_getElem? (i := 44) rfl))) (mvT hZ (hw _ (List.mem_of_getElem? (i := 43) rfl))) (by decide) (backOf (W := 0) (rmM2 l Z a0 hw [] nb210 x8 t8 x10 t10 kb8 kb10 (own_str (2 : Int32) [r2, r3, r4]) (own_str (2 : Int32) [r5, r6, r7]) G fm r2 r3 r5 r6 (1 : Int32) T211.heap n0 (Nat.le_trans Z0 K211.1) SC hCS f214 SF rG Eq211 Fk211 f217 f221 f224 f228 hp8 (own_strl (2 : Int32) r2 r3 r4) f230 f233 f235 f238 hp10 (own_strl (2 : Int32) r5 r6 r7) rfl rfl (by rw [if_neg hz145, if_neg hz178])) hZ (hw _ (List.mem_of_getElem? (i := 45) rfl)) (hw _ (List.mem_of_getElem? (i := 34) rfl)) (by decide) (by decide)) q240a q240c (g := (mkF m 266 #[.val (.int le), .val (.int ff), .val (.int tt), .val (.int mo), .val (.int (2 : Int32)), .val (.int (2 : Int32)), .val (.int r2), .val (.int r3), .val (.int r4), .val (.int r5), .val (.int r6), .val (.int r7), .val (.ref x8), .val (.ref x10), .val (.int (1 : Int32)), .unset] [(.ref x10), (.ref nb210)])) rfl (by rw [hml]; rfl) (argsL := [(.ref x10)]) (rest := []) (lenOf pd_9 rfl) rfl (by show 2 * 0 + _ ≤ _; exact Nat.le_of_eq rfl) (hb hby at_266) rfl rfl (by decide) (by decide) ?_
            rintro v239 T239 L239 X239 ⟨rfl, Nq239, hh239⟩
            have N239 := Fr.app N211 Nq239
            show own_Go p e below _ T239 (mkF m 269 #[.val (.int le), .val (.int ff), .val (.int tt), .val (.int mo), .val (.int (2 : Int32)), .val (.int (2 : Int32)), .val (.int r2), .val (.int r3), .val (.int r4), .val (.int r5), .val (.int r6), .val (.int r7), .val (.ref x8), .val (.ref x10), .val (.int (1 : Int32)), .unset] [(.int (1 : Int32))])
            refine own_st (fun t_ k_ => XS.istore X239.here hx rfl (hb hby at_269) rfl (l' := #[.val (.int le), .val (.int ff), .val (.int tt), .val (.int mo), .val (.int (2 : Int32)), .val (.int (2 : Int32)), .val (.int r2), .val (.int r3), .val (.int r4), .val (.int r5), .val (.int r6), .val (.int r7), .val (.ref x8), .val (.ref x10), .val (.int (1 : Int32)), .val (.int (1 : Int32))]) rfl k_) ?_
            show own_Go p e below _ T239 (mkF m 271 #[.val (.int le), .val (.int ff), .val (.int tt), .val (.int mo), .val (.int (2 : Int32)), .val (.int (2 : Int32)), .val (.int r2), .val (.int r3), .val (.int r4), .val (.int r5), .val (.int r6), .val (.int r7), .val (.ref x8), .val (.ref x10), .val (.int (1 : Int32)), .val (.int (1 : Int32))] [])
            refine own_st (fun t_ k_ => XS.iload X239.here hx rfl (hb hby at_271) rfl k_) ?_
            show own_Go p e below _ T239 (mkF m 273 #[.val (.int le), .val (.int ff), .val (.int tt), .val (.int mo), .val (.int (2 : Int32)), .val (.int (2 : Int32)), .val (.int r2), .val (.int r3), .val (.int r4), .val (.int r5), .val (.int r6), .val (.int r7), .val (.ref x8), .val (.ref x10), .val (.int (1 : Int32)), .val (.int (1 : Int32))] [(.int (1 : Int32))])
            refine own_st (fun t_ k_ => XS.iload X239.here hx rfl (hb hby at_273) rfl k_) ?_
            show own_Go p e below _ T239 (mkF m 275 #[.val (.int le), .val (.int ff), .val (.int tt), .val (.int mo), .val (.int (2 : Int32)), .val (.int (2 : Int32)), .val (.int r2), .val (.int r3), .val (.int r4), .val (.int r5), .val (.int r6), .val (.int r7), .val (.ref x8), .val (.ref x10), .val (.int (1 : Int32)), .val (.int (1 : Int32))] [(.int (1 : Int32)), (.int (1 : Int32))])
            refine own_st (fun t_ k_ => XS.icmpNo X239.here hx rfl (hb hby at_275) rfl (by decide) k_) ?_
            show own_Go p e below _ T239 (mkF m 278 #[.val (.int le), .val (.int ff), .val (.int tt), .val (.int mo), .val (.int (2 : Int32)), .val (.int (2 : Int32)), .val (.int r2), .val (.int r3), .val (.int r4), .val (.int r5), .val (.int r6), .val (.int r7), .val (.ref x8), .val (.ref x10), .val (.int (1 : Int32)), .val (.int (1 : Int32))] [])
            refine own_st (fun t_ k_ => XS.iconst X239.here hx rfl (hb hby at_278) k_) ?_
            show own_Go p e below _ T239 (mkF m 279 #[.val (.int le), .val (.int ff), .val (.int tt), .val (.int mo), .val (.int (2 : Int32)), .val (.int (2 : Int32)), .val (.int r2), .val (.int r3), .val (.int r4), .val (.int r5), .val (.int r6), .val (.int r7), .val (.ref x8), .val (.ref x10), .val (.int (1 : Int32)), .val (.int (1 : Int32))] [(.int (1 : Int32))])
            refine own_st (fun t_ k_ => XS.goto X239.here hx rfl (pc0 := 279) (pc' := 283) rfl (hb hby at_279) (by decide) (by decide) k_) ?_
            show own_Go p e below _ T239 (mkF m 283 #[.val (.int le), .val (.int ff), .val (.int tt), .val (.int mo), .val (.int (2 : Int32)), .val (.int (2 : Int32)), .val (.int r2), .val (.int r3), .val (.int r4), .val (.int r5), .val (.int r6), .val (.int r7), .val (.ref x8), .val (.ref x10), .val (.int (1 : Int32)), .val (.int (1 : Int32))] [(.int (1 : Int32))])
            refine own_retNS X239 hx hlk hZ hEL hh239 hh B211 (t := .boolean) Bd.returns (by simp) (hb hby at_283) ?_ (by decide) (by decide)
            show Q0 n0 _ T239.heap _
            rw [hh239]
            exact ⟨rfl, N239⟩
      · show own_Go p e below _ T10 (mkF m 165 #[.val (.int le), .val (.int ff), .val (.int tt), .val (.int mo), .val (.int (3 : Int32)), .val (.int (3 : Int32)), .val (.int r2), .val (.int r3), .val (.int r4), .val (.int r5), .val (.int r6), .val (.int r7), .val (.ref x8), .val (.ref x10), .unset, .unset] [])
        refine own_st (fun t_ k_ => XS.iconst X10.here hx rfl (hb hby at_165) k_) ?_
        show own_Go p e below _ T10 (mkF m 166 #[.val (.int le), .val (.int ff), .val (.int tt), .val (.int mo), .val (.int (3 : Int32)), .val (.int (3 : Int32)), .val (.int r2), .val (.int r3), .val (.int r4), .val (.int r5), .val (.int r6), .val (.int r7), .val (.ref x8), .val (.ref x10), .unset, .unset] [(.int (1 : Int32))])
        refine own_st (fun t_ k_ => XS.goto X10.here hx rfl (pc0 := 166) (pc' := 170) rfl (hb hby at_166) (by decide) (by decide) k_) ?_
        show own_Go p e below _ T10 (mkF m 170 #[.val (.int le), .val (.int ff), .val (.int tt), .val (.int mo), .val (.int (3 : Int32)), .val (.int (3 : Int32)), .val (.int r2), .val (.int r3), .val (.int r4), .val (.int r5), .val (.int r6), .val (.int r7), .val (.ref x8), .val (.ref x10), .unset, .unset] [(.int (1 : Int32))])
        refine own_st (fun t_ k_ => XS.istore X10.here hx rfl (hb hby at_170) rfl (l' := #[.val (.int le), .val (.int ff), .val (.int tt), .val (.int mo), .val (.int (3 : Int32)), .val (.int (3 : Int32)), .val (.int r2), .val (.int r3), .val (.int r4), .val (.int r5), .val (.int r6), .val (.int r7), .val (.ref x8), .val (.ref x10), .val (.int (1 : Int32)), .unset]) rfl k_) ?_
        show own_Go p e below _ T10 (mkF m 172 #[.val (.int le), .val (.int ff), .val (.int tt), .val (.int mo), .val (.int (3 : Int32)), .val (.int (3 : Int32)), .val (.int r2), .val (.int r3), .val (.int r4), .val (.int r5), .val (.int r6), .val (.int r7), .val (.ref x8), .val (.ref x10), .val (.int (1 : Int32)), .unset] [])
        refine own_st (fun t_ k_ => XS.iload X10.here hx rfl (hb hby at_172) rfl k_) ?_
        show own_Go p e below _ T10 (mkF m 174 #[.val (.int le), .val (.int ff), .val (.int tt), .val (.int mo), .val (.int (3 : Int32)), .val (.int (3 : Int32)), .val (.int r2), .val (.int r3), .val (.int r4), .val (.int r5), .val (.int r6), .val (.int r7), .val (.ref x8), .val (.ref x10), .val (.int (1 : Int32)), .unset] [(.int (3 : Int32))])
        refine own_st (fun t_ k_ => XS.ifNo X10.here hx rfl (hb hby at_174) rfl (by decide) k_) ?_
        show own_Go p e below _ T10 (mkF m 177 #[.val (.int le), .val (.int ff), .val (.int tt), .val (.int mo), .val (.int (3 : Int32)), .val (.int (3 : Int32)), .val (.int r2), .val (.int r3), .val (.int r4), .val (.int r5), .val (.int r6), .val (.int r7), .val (.ref x8), .val (.ref x10), .val (.int (1 : Int32)), .unset] [])
        refine own_st (fun t_ k_ => XS.iload X10.here hx rfl (hb hby at_177) rfl k_) ?_
        show own_Go p e below _ T10 (mkF m 179 #[.val (.int le), .val (.int ff), .val (.int tt), .val (.int mo), .val (.int (3 : Int32)), .val (.int (3 : Int32)), .val (.int r2), .val (.int r3), .val (.int r4), .val (.int r5), .val (.int r6), .val (.int r7), .val (.ref x8), .val (.ref x10), .val (.int (1 : Int32)), .unset] [(.int (1 : Int32))])
        refine own_st (fun t_ k_ => XS.ifNo X10.here hx rfl (hb hby at_179) rfl (by decide) k_) ?_
        show own_Go p e below _ T10 (mkF m 182 #[.val (.int le), .val (.int ff), .val (.int tt), .val (.int mo), .val (.int (3 : Int32)), .val (.int (3 : Int32)), .val (.int r2), .val (.int r3), .val (.int r4), .val (.int r5), .val (.int r6), .val (.int r7), .val (.ref x8), .val (.ref x10), .val (.int (1 : Int32)), .unset] [])
        refine own_st (fun t_ k_ => XS.iload X10.here hx rfl (hb hby at_182) rfl k_) ?_
        show own_Go p e below _ T10 (mkF m 184 #[.val (.int le), .val (.int ff), .val (.int tt), .val (.int mo), .val (.int (3 : Int32)), .val (.int (3 : Int32)), .val (.int r2), .val (.int r3), .val (.int r4), .val (.int r5), .val (.int r6), .val (.int r7), .val (.ref x8), .val (.ref x10), .val (.int (1 : Int32)), .unset] [(.int r2)])
        refine own_st (fun t_ k_ => XS.iload X10.here hx rfl (hb hby at_184) rfl k_) ?_
        show own_Go p e below _ T10 (mkF m 186 #[.val (.int le), .val (.int ff), .val (.int tt), .val (.int mo), .val (.int (3 : Int32)), .val (.int (3 : Int32)), .val (.int r2), .val (.int r3), .val (.int r4), .val (.int r5), .val (.int r6), .val (.int r7), .val (.ref x8), .val (.ref x10), .val (.int (1 : Int32)), .unset] [(.int r5), (.int r2)])
        refine own_callS X10 hx (y := (⟨"com/example/hebelwerk/hebelwerk/io/FixedFormMatchesPinLaw", "fits", "(CC)Z"⟩ : MethodName)) hown (mvT hZ (hw _ (List.mem_of_getElem? (i := 67) rfl))) (mvT hZ (hw _ (List.mem_of_getElem? (i := 68) rfl))) (mvT hZ (hw _ (List.mem_of_getElem? (i := 2) rfl))) (mvT hZ (hw _ (List.mem_of_getElem? (i := 69) rfl))) (by decide) (backOf (W := 0) (rmFI l Z a0 hw [] r2 r5 T10.heap n0 (Nat.le_trans Z0 K10.1)) hZ (hw _ (List.mem_of_getElem? (i := 69) rfl)) (hw _ (List.mem_of_getElem? (i := 2) rfl)) (by decide) (by decide)) (g := (mkF m 186 #[.val (.int le), .val (.int ff), .val (.int tt), .val (.int mo), .val (.int (3 : Int32)), .val (.int (3 : Int32)), .val (.int r2), .val (.int r3), .val (.int r4), .val (.int r5), .val (.int r6), .val (.int r7), .val (.ref x8), .val (.ref x10), .val (.int (1 : Int32)), .unset] [(.int r5), (.int r2)])) rfl (by rw [hml]; rfl) (argsL := [(.int r2), (.int r5)]) (rest := []) (lenOf pd_10 rfl) rfl (by show 2 * 0 + _ ≤ _; exact Nat.le_of_eq rfl) (hb hby at_186) rfl rfl (by decide) (by decide) ?_
        rintro v241 T241 L241 X241 ⟨rfl, Nq241, hh241⟩
        have N241 := Fr.app N10 Nq241
        show own_Go p e below _ T241 (mkF m 189 #[.val (.int le), .val (.int ff), .val (.int tt), .val (.int mo), .val (.int (3 : Int32)), .val (.int (3 : Int32)), .val (.int r2), .val (.int r3), .val (.int r4), .val (.int r5), .val (.int r6), .val (.int r7), .val (.ref x8), .val (.ref x10), .val (.int (1 : Int32)), .unset] [(.int (own_fits r2 r5))])
        by_cases hz242 : (own_fits r2 r5) = (0 : Int32)
        · refine own_st (fun t_ k_ => XS.ifYes X241.here hx rfl (pc0 := 189) (pc' := 196) rfl (hb hby at_189) rfl ((if0 _ _).trans (teq hz242).1) (by decide) (by decide) k_) ?_
          show own_Go p e below _ T241 (mkF m 196 #[.val (.int le), .val (.int ff), .val (.int tt), .val (.int mo), .val (.int (3 : Int32)), .val (.int (3 : Int32)), .val (.int r2), .val (.int r3), .val (.int r4), .val (.int r5), .val (.int r6), .val (.int r7), .val (.ref x8), .val (.ref x10), .val (.int (1 : Int32)), .unset] [])
          refine own_st (fun t_ k_ => XS.iconst X241.here hx rfl (hb hby at_196) k_) ?_
          show own_Go p e below _ T241 (mkF m 197 #[.val (.int le), .val (.int ff), .val (.int tt), .val (.int mo), .val (.int (3 : Int32)), .val (.int (3 : Int32)), .val (.int r2), .val (.int r3), .val (.int r4), .val (.int r5), .val (.int r6), .val (.int r7), .val (.ref x8), .val (.ref x10), .val (.int (1 : Int32)), .unset] [(.int (0 : Int32))])
          refine own_st (fun t_ k_ => XS.istore X241.here hx rfl (hb hby at_197) rfl (l' := #[.val (.int le), .val (.int ff), .val (.int tt), .val (.int mo), .val (.int (3 : Int32)), .val (.int (3 : Int32)), .val (.int r2), .val (.int r3), .val (.int r4), .val (.int r5), .val (.int r6), .val (.int r7), .val (.ref x8), .val (.ref x10), .val (.int (0 : Int32)), .unset]) rfl k_) ?_
          show own_Go p e below _ T241 (mkF m 199 #[.val (.int le), .val (.int ff), .val (.int tt), .val (.int mo), .val (.int (3 : Int32)), .val (.int (3 : Int32)), .val (.int r2), .val (.int r3), .val (.int r4), .val (.int r5), .val (.int r6), .val (.int r7), .val (.ref x8), .val (.ref x10), .val (.int (0 : Int32)), .unset] [])
          refine own_st (fun t_ k_ => XS.iload X241.here hx rfl (hb hby at_199) rfl k_) ?_
          show own_Go p e below _ T241 (mkF m 201 #[.val (.int le), .val (.int ff), .val (.int tt), .val (.int mo), .val (.int (3 : Int32)), .val (.int (3 : Int32)), .val (.int r2), .val (.int r3), .val (.int r4), .val (.int r5), .val (.int r6), .val (.int r7), .val (.ref x8), .val (.ref x10), .val (.int (0 : Int32)), .unset] [(.int (3 : Int32))])
          refine own_st (fun t_ k_ => XS.iconst X241.here hx rfl (hb hby at_201) k_) ?_
          show own_Go p e below _ T241 (mkF m 202 #[.val (.int le), .val (.int ff), .val (.int tt), .val (.int mo), .val (.int (3 : Int32)), .val (.int (3 : Int32)), .val (.int r2), .val (.int r3), .val (.int r4), .val (.int r5), .val (.int r6), .val (.int r7), .val (.ref x8), .val (.ref x10), .val (.int (0 : Int32)), .unset] [(.int (1 : Int32)), (.int (3 : Int32))])
          refine own_st (fun t_ k_ => XS.icmpNo X241.here hx rfl (hb hby at_202) rfl (by decide) k_) ?_
          show own_Go p e below _ T241 (mkF m 205 #[.val (.int le), .val (.int ff), .val (.int tt), .val (.int mo), .val (.int (3 : Int32)), .val (.int (3 : Int32)), .val (.int r2), .val (.int r3), .val (.int r4), .val (.int r5), .val (.int r6), .val (.int r7), .val (.ref x8), .val (.ref x10), .val (.int (0 : Int32)), .unset] [])
          refine own_st (fun t_ k_ => XS.iload X241.here hx rfl (hb hby at_205) rfl k_) ?_
          show own_Go p e below _ T241 (mkF m 207 #[.val (.int le), .val (.int ff), .val (.int tt), .val (.int mo), .val (.int (3 : Int32)), .val (.int (3 : Int32)), .val (.int r2), .val (.int r3), .val (.int r4), .val (.int r5), .val (.int r6), .val (.int r7), .val (.ref x8), .val (.ref x10), .val (.int (0 : Int32)), .unset] [(.int (0 : Int32))])
          refine own_st (fun t_ k_ => XS.ifYes X241.here hx rfl (pc0 := 207) (pc' := 224) rfl (hb hby at_207) rfl (by decide) (by decide) (by decide) k_) ?_
          show own_Go p e below _ T241 (mkF m 224 #[.val (.int le), .val (.int ff), .val (.int tt), .val (.int mo), .val (.int (3 : Int32)), .val (.int (3 : Int32)), .val (.int r2), .val (.int r3), .val (.int r4), .val (.int r5), .val (.int r6), .val (.int r7), .val (.ref x8), .val (.ref x10), .val (.int (0 : Int32)), .unset] [])
          refine own_st (fun t_ k_ => XS.iconst X241.here hx rfl (hb hby at_224) k_) ?_
          show own_Go p e below _ T241 (mkF m 225 #[.val (.int le), .val (.int ff), .val (.int tt), .val (.int mo), .val (.int (3 : Int32)), .val (.int (3 : Int32)), .val (.int r2), .val (.int r3), .val (.int r4), .val (.int r5), .val (.int r6), .val (.int r7), .val (.ref x8), .val (.ref x10), .val (.int (0 : Int32)), .unset] [(.int (0 : Int32))])
          refine own_st (fun t_ k_ => XS.istore X241.here hx rfl (hb hby at_225) rfl (l' := #[.val (.int le), .val (.int ff), .val (.int tt), .val (.int mo), .val (.int (3 : Int32)), .val (.int (3 : Int32)), .val (.int r2), .val (.int r3), .val (.int r4), .val (.int r5), .val (.int r6), .val (.int r7), .val (.ref x8), .val (.ref x10), .val (.int (0 : Int32)), .unset]) rfl k_) ?_
          show own_Go p e below _ T241 (mkF m 227 #[.val (.int le), .val (.int ff), .val (.int tt), .val (.int mo), .val (.int (3 : Int32)), .val (.int (3 : Int32)), .val (.int r2), .val (.int r3), .val (.int r4), .val (.int r5), .val (.int r6), .val (.int r7), .val (.ref x8), .val (.ref x10), .val (.int (0 : Int32)), .unset] [])
          refine own_st (fun t_ k_ => XS.iload X241.here hx rfl (hb hby at_227) rfl k_) ?_
          show own_Go p e below _ T241 (mkF m 229 #[.val (.int le), .val (.int ff), .val (.int tt), .val (.int mo), .val (.int (3 : Int32)), .val (.int (3 : Int32)), .val (.int r2), .val (.int r3), .val (.int r4), .val (.int r5), .val (.int r6), .val (.int r7), .val (.ref x8), .val (.ref x10), .val (.int (0 : Int32)), .unset] [(.int (3 : Int32))])
          refine own_st (fun t_ k_ => XS.iconst X241.here hx rfl (hb hby at_229) k_) ?_
          show own_Go p e below _ T241 (mkF m 230 #[.val (.int le), .val (.int ff), .val (.int tt), .val (.int mo), .val (.int (3 : Int32)), .val (.int (3 : Int32)), .val (.int r2), .val (.int r3), .val (.int r4), .val (.int r5), .val (.int r6), .val (.int r7), .val (.ref x8), .val (.ref x10), .val (.int (0 : Int32)), .unset] [(.int (2 : Int32)), (.int (3 : Int32))])
          refine own_st (fun t_ k_ => XS.icmpNo X241.here hx rfl (hb hby at_230) rfl (by decide) k_) ?_
          show own_Go p e below _ T241 (mkF m 233 #[.val (.int le), .val (.int ff), .val (.int tt), .val (.int mo), .val (.int (3 : Int32)), .val (.int (3 : Int32)), .val (.int r2), .val (.int r3), .val (.int r4), .val (.int r5), .val (.int r6), .val (.int r7), .val (.ref x8), .val (.ref x10), .val (.int (0 : Int32)), .unset] [])
          refine own_st (fun t_ k_ => XS.iload X241.here hx rfl (hb hby at_233) rfl k_) ?_
          show own_Go p e below _ T241 (mkF m 235 #[.val (.int le), .val (.int ff), .val (.int tt), .val (.int mo), .val (.int (3 : Int32)), .val (.int (3 : Int32)), .val (.int r2), .val (.int r3), .val (.int r4), .val (.int r5), .val (.int r6), .val (.int r7), .val (.ref x8), .val (.ref x10), .val (.int (0 : Int32)), .unset] [(.int (0 : Int32))])
          refine own_st (fun t_ k_ => XS.ifYes X241.here hx rfl (pc0 := 235) (pc' := 252) rfl (hb hby at_235) rfl (by decide) (by decide) (by decide) k_) ?_
          show own_Go p e below _ T241 (mkF m 252 #[.val (.int le), .val (.int ff), .val (.int tt), .val (.int mo), .val (.int (3 : Int32)), .val (.int (3 : Int32)), .val (.int r2), .val (.int r3), .val (.int r4), .val (.int r5), .val (.int r6), .val (.int r7), .val (.ref x8), .val (.ref x10), .val (.int (0 : Int32)), .unset] [])
          refine own_st (fun t_ k_ => XS.iconst X241.here hx rfl (hb hby at_252) k_) ?_
          show own_Go p e below _ T241 (mkF m 253 #[.val (.int le), .val (.int ff), .val (.int tt), .val (.int mo), .val (.int (3 : Int32)), .val (.int (3 : Int32)), .val (.int r2), .val (.int r3), .val (.int r4), .val (.int r5), .val (.int r6), .val (.int r7), .val (.ref x8), .val (.ref x10), .val (.int (0 : Int32)), .unset] [(.int (0 : Int32))])
          refine own_st (fun t_ k_ => XS.istore X241.here hx rfl (hb hby at_253) rfl (l' := #[.val (.int le), .val (.int ff), .val (.int tt), .val (.int mo), .val (.int (3 : Int32)), .val (.int (3 : Int32)), .val (.int r2), .val (.int r3), .val (.int r4), .val (.int r5), .val (.int r6), .val (.int r7), .val (.ref x8), .val (.ref x10), .val (.int (0 : Int32)), .unset]) rfl k_) ?_
          show own_Go p e below _ T241 (mkF m 255 #[.val (.int le), .val (.int ff), .val (.int tt), .val (.int mo), .val (.int (3 : Int32)), .val (.int (3 : Int32)), .val (.int r2), .val (.int r3), .val (.int r4), .val (.int r5), .val (.int r6), .val (.int r7), .val (.ref x8), .val (.ref x10), .val (.int (0 : Int32)), .unset] [])
          obtain ⟨T243, h243, X243, e243, E243, A243, D243, cel243, st243⟩ := newO X241 hx hZ hown (hw _ (List.mem_of_getElem? (i := 32) rfl)) (hw _ (List.mem_of_getElem? (i := 33) rfl)) (hw _ (List.mem_of_getElem? (i := 34) rfl)) hh241 (g := (mkF m 255 #[.val (.int le), .val (.int ff), .val (.int tt), .val (.int mo), .val (.int (3 : Int32)), .val (.int (3 : Int32)), .val (.int r2), .val (.int r3), .val (.int r4), .val (.int r5), .val (.int r6), .val (.int r7), .val (.ref x8), .val (.ref x10), .val (.int (0 : Int32)), .unset] [])) rfl (hb hby at_255) (by decide) (by decide)
          obtain ⟨nb243, g243⟩ : ∃ z, z = T10.heap.size := ⟨_, rfl⟩
          rw [← g243] at A243 D243 cel243 st243
          refine own_st st243 ?_
          have g_nb243 : n0 ≤ nb243 := Nat.le_trans (Nat.le_trans Z0 K10.1) (Nat.le_of_eq g243.symm)
          have K243 : Keep h0 h243 [] := K10.ext E243
          have sz_nb243 : h0.size ≤ nb243 := Nat.le_trans K10.1 (Nat.le_of_eq g243.symm)
          have B243 := own_Bk.ext E243 B10
          have Sf243 := Safe.ext E243 (own_Bk.ch B10) (Safe.new (Nat.le_of_eq g243.symm))
          have F243_form : Fld Z h243 nb243 "com/example/hebelwerk/hebelwerk/io/FixedForm" "form" "Ljava/lang/String;" .null := D243 (Or.inr (hw _ (List.mem_of_getElem? (i := 40) rfl))) (ty := (.object "java/lang/String")) (by decide)
          show own_Go p e below _ T243 (mkF m 258 #[.val (.int le), .val (.int ff), .val (.int tt), .val (.int mo), .val (.int (3 : Int32)), .val (.int (3 : Int32)), .val (.int r2), .val (.int r3), .val (.int r4), .val (.int r5), .val (.int r6), .val (.int r7), .val (.ref x8), .val (.ref x10), .val (.int (0 : Int32)), .unset] [(.ref nb243)])
          refine own_st (fun t_ k_ => XS.dup X243.here hx rfl (hb hby at_258) rfl rfl k_) ?_
          show own_Go p e below _ T243 (mkF m 259 #[.val (.int le), .val (.int ff), .val (.int tt), .val (.int mo), .val (.int (3 : Int32)), .val (.int (3 : Int32)), .val (.int r2), .val (.int r3), .val (.int r4), .val (.int r5), .val (.int r6), .val (.int r7), .val (.ref x8), .val (.ref x10), .val (.int (0 : Int32)), .unset] [(.ref nb243), (.ref nb243)])
          refine own_st (fun t_ k_ => XS.aload X243.here hx rfl (hb hby at_259) rfl rfl k_) ?_
          show own_Go p e below _ T243 (mkF m 261 #[.val (.int le), .val (.int ff), .val (.int tt), .val (.int mo), .val (.int (3 : Int32)), .val (.int (3 : Int32)), .val (.int r2), .val (.int r3), .val (.int r4), .val (.int r5), .val (.int r6), .val (.int r7), .val (.ref x8), .val (.ref x10), .val (.int (0 : Int32)), .unset] [(.ref x8), (.ref nb243), (.ref nb243)])
          refine own_callN X243 hx (y := (⟨"com/example/hebelwerk/hebelwerk/io/FixedForm", "<init>", "(Ljava/lang/String;)V"⟩ : MethodName)) rfl hown (mvT hZ (hw _ (List.mem_of_getElem? (i := 35) rfl))) (mvT hZ (hw _ (List.mem_of_getElem? (i := 36) rfl))) (mvT hZ (hw _ (List.mem_of_getElem? (i := 37) rfl))) (by decide) (backOf (W := 1) (rmCI l Z a0 hw [] nb243 x8 h243 n0 (Nat.le_trans Z0 K243.1) g_nb243 A243 F243_form) hZ (hw _ (List.mem_of_getElem? (i := 37) rfl)) (hw _ (List.mem_of_getElem? (i := 34) rfl)) (by decide) (by decide)) (a := nb243) (g := (mkF m 261 #[.val (.int le), .val (.int ff), .val (.int tt), .val (.int mo), .val (.int (3 : Int32)), .val (.int (3 : Int32)), .val (.int r2), .val (.int r3), .val (.int r4), .val (.int r5), .val (.int r6), .val (.int r7), .val (.ref x8), .val (.ref x10), .val (.int (0 : Int32)), .unset] [(.ref x8), (.ref nb243), (.ref nb243)])) rfl (by rw [hml]; rfl) (argsL := [(.ref x8)]) (rest := [(.ref nb243)]) (lenOf pd_8 rfl) rfl (by show 2 * 0 + _ ≤ _; exact Nat.le_of_eq rfl) (hb hby at_261) rfl e243 (by decide) (by decide) ?_
          rintro v244 T244 L244 X244 ⟨rfl, Nq244, Kq244, Eq244, Fk244⟩
          have N244 := Fr.app N241 Nq244
          have K244 : Keep h0 T244.heap [] := K243.trans Kq244 (allS (Or.inr sz_nb243) all0)
          have B244 := own_Bk.keep Kq244 (sfS Sf243 sf0) B243
          show own_Go p e below _ T244 (mkF m 264 #[.val (.int le), .val (.int ff), .val (.int tt), .val (.int mo), .val (.int (3 : Int32)), .val (.int (3 : Int32)), .val (.int r2), .val (.int r3), .val (.int r4), .val (.int r5), .val (.int r6), .val (.int r7), .val (.ref x8), .val (.ref x10), .val (.int (0 : Int32)), .unset] [(.ref nb243)])
          refine own_st (fun t_ k_ => XS.aload X244.here hx rfl (hb hby at_264) rfl rfl k_) ?_
          show own_Go p e below _ T244 (mkF m 266 #[.val (.int le), .val (.int ff), .val (.int tt), .val (.int mo), .val (.int (3 : Int32)), .val (.int (3 : Int32)), .val (.int r2), .val (.int r3), .val (.int r4), .val (.int r5), .val (.int r6), .val (.int r7), .val (.ref x8), .val (.ref x10), .val (.int (0 : Int32)), .unset] [(.ref x10), (.ref nb243)])
          have f245 := (f9.keep Kq10 all0)
          have f246 := (f245.ext E243)
          have f247 := (f246.keep Kq244 (allS g_nb243 all0))
          have f248 := (Ex8.keep Kq10)
          have f249 := (Exa.ext E243 f248)
          have f250 := (f249.keep Kq244)
          have f251 := (Cq8.keep Kq10 nin0)
          have f252 := (Fld.ext E243 f251)
          have ne253 : x8 ≠ nb243 := (Nat.ne_of_lt (Nat.lt_of_lt_of_le f248.lt (Nat.le_of_eq g243.symm)))
          have f254 := (f252.keep Kq244 (ninS ne253 nin0))
          have f255 := (Vq8.keep Kq10 nin0)
          have f256 := (Fld.ext E243 f255)
          have f257 := (f256.keep Kq244 (ninS ne253 nin0))
          have f258 := (Aq8.keep Kq10 nin0)
          have f259 := (f258.ext E243)
          have ne260 : t8 ≠ nb243 := (Nat.ne_of_lt (Nat.lt_of_lt_of_le f258.lt (Nat.le_of_eq g243.symm)))
          have f261 := (f259.keep Kq244 (ninS ne260 nin0))
          have f262 := (Exa.ext E243 Ex10)
          have f263 := (f262.keep Kq244)
          have f264 := (Fld.ext E243 Cq10)
          have ne265 : x10 ≠ nb243 := (Nat.ne_of_lt (Nat.lt_of_lt_of_le Ex10.lt (Nat.le_of_eq g243.symm)))
          have f266 := (f264.keep Kq244 (ninS ne265 nin0))
          have f267 := (Fld.ext E243 Vq10)
          have f268 := (f267.keep Kq244 (ninS ne265 nin0))
          have f269 := (Aq10.ext E243)
          have ne270 : t10 ≠ nb243 := (Nat.ne_of_lt (Nat.lt_of_lt_of_le Aq10.lt (Nat.le_of_eq g243.symm)))
          have f271 := (f269.keep Kq244 (ninS ne270 nin0))
          obtain ⟨cq273, kq273, q273a, q273b, q273c⟩ := isOf hZ rfl Eq244
          refine own_callV X244 hx (y := (⟨"com/example/hebelwerk/hebelwerk/io/FixedForm", "matches", "(Ljava/lang/String;)Z"⟩ : MethodName)) (z := (⟨"com/example/hebelwerk/hebelwerk/io/FixedForm", "matches", "(Ljava/lang/String;)Z"⟩ : MethodName)) hown (mvT hZ (hw _ (List.mem_of_getElem? (i := 41) rfl))) (mvT hZ (hw _ (List.mem_of_getElem? (i := 42) rfl))) (notFace_of_selects (args := #[]) (mvT hZ (hw _ (List.mem_of_getElem? (i := 44) rfl)))) (mvT hZ (hw _ (List.mem_of_getElem? (i := 44) rfl))) (mvT hZ (hw _ (List.mem_of_getElem? (i := 43) rfl))) (by decide) (backOf (W := 0) (rmM3 l Z a0 hw [] nb243 x8 t8 x10 t10 kb8 kb10 (own_str (3 : Int32) [r2, r3, r4]) (own_str (3 : Int32) [r5, r6, r7]) G fm r2 r3 r4 r5 r6 r7 (0 : Int32) T244.heap n0 (Nat.le_trans Z0 K244.1) SC hCS f247 SF rG Eq244 Fk244 f250 f254 f257 f261 hp8 (own_strl (3 : Int32) r2 r3 r4) f263 f266 f268 f271 hp10 (own_strl (3 : Int32) r5 r6 r7) rfl rfl (by rw [if_pos hz242])) hZ (hw _ (List.mem_of_getElem? (i := 45) rfl)) (hw _ (List.mem_of_getElem? (i := 34) rfl)) (by decide) (by decide)) q273a q273c (g := (mkF m 266 #[.val (.int le), .val (.int ff), .val (.int tt), .val (.int mo), .val (.int (3 : Int32)), .val (.int (3 : Int32)), .val (.int r2), .val (.int r3), .val (.int r4), .val (.int r5), .val (.int r6), .val (.int r7), .val (.ref x8), .val (.ref x10), .val (.int (0 : Int32)), .unset] [(.ref x10), (.ref nb243)])) rfl (by rw [hml]; rfl) (argsL := [(.ref x10)]) (rest := []) (lenOf pd_9 rfl) rfl (by show 2 * 0 + _ ≤ _; exact Nat.le_of_eq rfl) (hb hby at_266) rfl rfl (by decide) (by decide) ?_
          rintro v272 T272 L272 X272 ⟨rfl, Nq272, hh272⟩
          have N272 := Fr.app N244 Nq272
          show own_Go p e below _ T272 (mkF m 269 #[.val (.int le), .val (.int ff), .val (.int tt), .val (.int mo), .val (.int (3 : Int32)), .val (.int (3 : Int32)), .val (.int r2), .val (.int r3), .val (.int r4), .val (.int r5), .val (.int r6), .val (.int r7), .val (.ref x8), .val (.ref x10), .val (.int (0 : Int32)), .unset] [(.int (0 : Int32))])
          refine own_st (fun t_ k_ => XS.istore X272.here hx rfl (hb hby at_269) rfl (l' := #[.val (.int le), .val (.int ff), .val (.int tt), .val (.int mo), .val (.int (3 : Int32)), .val (.int (3 : Int32)), .val (.int r2), .val (.int r3), .val (.int r4), .val (.int r5), .val (.int r6), .val (.int r7), .val (.ref x8), .val (.ref x10), .val (.int (0 : Int32)), .val (.int (0 : Int32))]) rfl k_) ?_
          show own_Go p e below _ T272 (mkF m 271 #[.val (.int le), .val (.int ff), .val (.int tt), .val (.int mo), .val (.int (3 : Int32)), .val (.int (3 : Int32)), .val (.int r2), .val (.int r3), .val (.int r4), .val (.int r5), .val (.int r6), .val (.int r7), .val (.ref x8), .val (.ref x10), .val (.int (0 : Int32)), .val (.int (0 : Int32))] [])
          refine own_st (fun t_ k_ => XS.iload X272.here hx rfl (hb hby at_271) rfl k_) ?_
          show own_Go p e below _ T272 (mkF m 273 #[.val (.int le), .val (.int ff), .val (.int tt), .val (.int mo), .val (.int (3 : Int32)), .val (.int (3 : Int32)), .val (.int r2), .val (.int r3), .val (.int r4), .val (.int r5), .val (.int r6), .val (.int r7), .val (.ref x8), .val (.ref x10), .val (.int (0 : Int32)), .val (.int (0 : Int32))] [(.int (0 : Int32))])
          refine own_st (fun t_ k_ => XS.iload X272.here hx rfl (hb hby at_273) rfl k_) ?_
          show own_Go p e below _ T272 (mkF m 275 #[.val (.int le), .val (.int ff), .val (.int tt), .val (.int mo), .val (.int (3 : Int32)), .val (.int (3 : Int32)), .val (.int r2), .val (.int r3), .val (.int r4), .val (.int r5), .val (.int r6), .val (.int r7), .val (.ref x8), .val (.ref x10), .val (.int (0 : Int32)), .val (.int (0 : Int32))] [(.int (0 : Int32)), (.int (0 : Int32))])
          refine own_st (fun t_ k_ => XS.icmpNo X272.here hx rfl (hb hby at_275) rfl (by decide) k_) ?_
          show own_Go p e below _ T272 (mkF m 278 #[.val (.int le), .val (.int ff), .val (.int tt), .val (.int mo), .val (.int (3 : Int32)), .val (.int (3 : Int32)), .val (.int r2), .val (.int r3), .val (.int r4), .val (.int r5), .val (.int r6), .val (.int r7), .val (.ref x8), .val (.ref x10), .val (.int (0 : Int32)), .val (.int (0 : Int32))] [])
          refine own_st (fun t_ k_ => XS.iconst X272.here hx rfl (hb hby at_278) k_) ?_
          show own_Go p e below _ T272 (mkF m 279 #[.val (.int le), .val (.int ff), .val (.int tt), .val (.int mo), .val (.int (3 : Int32)), .val (.int (3 : Int32)), .val (.int r2), .val (.int r3), .val (.int r4), .val (.int r5), .val (.int r6), .val (.int r7), .val (.ref x8), .val (.ref x10), .val (.int (0 : Int32)), .val (.int (0 : Int32))] [(.int (1 : Int32))])
          refine own_st (fun t_ k_ => XS.goto X272.here hx rfl (pc0 := 279) (pc' := 283) rfl (hb hby at_279) (by decide) (by decide) k_) ?_
          show own_Go p e below _ T272 (mkF m 283 #[.val (.int le), .val (.int ff), .val (.int tt), .val (.int mo), .val (.int (3 : Int32)), .val (.int (3 : Int32)), .val (.int r2), .val (.int r3), .val (.int r4), .val (.int r5), .val (.int r6), .val (.int r7), .val (.ref x8), .val (.ref x10), .val (.int (0 : Int32)), .val (.int (0 : Int32))] [(.int (1 : Int32))])
          refine own_retNS X272 hx hlk hZ hEL hh272 hh B244 (t := .boolean) Bd.returns (by simp) (hb hby at_283) ?_ (by decide) (by decide)
          show Q0 n0 _ T272.heap _
          rw [hh272]
          exact ⟨rfl, N272⟩
        · refine own_st (fun t_ k_ => XS.ifNo X241.here hx rfl (hb hby at_189) rfl ((if0 _ _).trans (feq hz242).1) k_) ?_
          show own_Go p e below _ T241 (mkF m 192 #[.val (.int le), .val (.int ff), .val (.int tt), .val (.int mo), .val (.int (3 : Int32)), .val (.int (3 : Int32)), .val (.int r2), .val (.int r3), .val (.int r4), .val (.int r5), .val (.int r6), .val (.int r7), .val (.ref x8), .val (.ref x10), .val (.int (1 : Int32)), .unset] [])
          refine own_st (fun t_ k_ => XS.iconst X241.here hx rfl (hb hby at_192) k_) ?_
          show own_Go p e below _ T241 (mkF m 193 #[.val (.int le), .val (.int ff), .val (.int tt), .val (.int mo), .val (.int (3 : Int32)), .val (.int (3 : Int32)), .val (.int r2), .val (.int r3), .val (.int r4), .val (.int r5), .val (.int r6), .val (.int r7), .val (.ref x8), .val (.ref x10), .val (.int (1 : Int32)), .unset] [(.int (1 : Int32))])
          refine own_st (fun t_ k_ => XS.goto X241.here hx rfl (pc0 := 193) (pc' := 197) rfl (hb hby at_193) (by decide) (by decide) k_) ?_
          show own_Go p e below _ T241 (mkF m 197 #[.val (.int le), .val (.int ff), .val (.int tt), .val (.int mo), .val (.int (3 : Int32)), .val (.int (3 : Int32)), .val (.int r2), .val (.int r3), .val (.int r4), .val (.int r5), .val (.int r6), .val (.int r7), .val (.ref x8), .val (.ref x10), .val (.int (1 : Int32)), .unset] [(.int (1 : Int32))])
          refine own_st (fun t_ k_ => XS.istore X241.here hx rfl (hb hby at_197) rfl (l' := #[.val (.int le), .val (.int ff), .val (.int tt), .val (.int mo), .val (.int (3 : Int32)), .val (.int (3 : Int32)), .val (.int r2), .val (.int r3), .val (.int r4), .val (.int r5), .val (.int r6), .val (.int r7), .val (.ref x8), .val (.ref x10), .val (.int (1 : Int32)), .unset]) rfl k_) ?_
          show own_Go p e below _ T241 (mkF m 199 #[.val (.int le), .val (.int ff), .val (.int tt), .val (.int mo), .val (.int (3 : Int32)), .val (.int (3 : Int32)), .val (.int r2), .val (.int r3), .val (.int r4), .val (.int r5), .val (.int r6), .val (.int r7), .val (.ref x8), .val (.ref x10), .val (.int (1 : Int32)), .unset] [])
          refine own_st (fun t_ k_ => XS.iload X241.here hx rfl (hb hby at_199) rfl k_) ?_
          show own_Go p e below _ T241 (mkF m 201 #[.val (.int le), .val (.int ff), .val (.int tt), .val (.int mo), .val (.int (3 : Int32)), .val (.int (3 : Int32)), .val (.int r2), .val (.int r3), .val (.int r4), .val (.int r5), .val (.int r6), .val (.int r7), .val (.ref x8), .val (.ref x10), .val (.int (1 : Int32)), .unset] [(.int (3 : Int32))])
          refine own_st (fun t_ k_ => XS.iconst X241.here hx rfl (hb hby at_201) k_) ?_
          show own_Go p e below _ T241 (mkF m 202 #[.val (.int le), .val (.int ff), .val (.int tt), .val (.int mo), .val (.int (3 : Int32)), .val (.int (3 : Int32)), .val (.int r2), .val (.int r3), .val (.int r4), .val (.int r5), .val (.int r6), .val (.int r7), .val (.ref x8), .val (.ref x10), .val (.int (1 : Int32)), .unset] [(.int (1 : Int32)), (.int (3 : Int32))])
          refine own_st (fun t_ k_ => XS.icmpNo X241.here hx rfl (hb hby at_202) rfl (by decide) k_) ?_
          show own_Go p e below _ T241 (mkF m 205 #[.val (.int le), .val (.int ff), .val (.int tt), .val (.int mo), .val (.int (3 : Int32)), .val (.int (3 : Int32)), .val (.int r2), .val (.int r3), .val (.int r4), .val (.int r5), .val (.int r6), .val (.int r7), .val (.ref x8), .val (.ref x10), .val (.int (1 : Int32)), .unset] [])
          refine own_st (fun t_ k_ => XS.iload X241.here hx rfl (hb hby at_205) rfl k_) ?_
          show own_Go p e below _ T241 (mkF m 207 #[.val (.int le), .val (.int ff), .val (.int tt), .val (.int mo), .val (.int (3 : Int32)), .val (.int (3 : Int32)), .val (.int r2), .val (.int r3), .val (.int r4), .val (.int r5), .val (.int r6), .val (.int r7), .val (.ref x8), .val (.ref x10), .val (.int (1 : Int32)), .unset] [(.int (1 : Int32))])
          refine own_st (fun t_ k_ => XS.ifNo X241.here hx rfl (hb hby at_207) rfl (by decide) k_) ?_
          show own_Go p e below _ T241 (mkF m 210 #[.val (.int le), .val (.int ff), .val (.int tt), .val (.int mo), .val (.int (3 : Int32)), .val (.int (3 : Int32)), .val (.int r2), .val (.int r3), .val (.int r4), .val (.int r5), .val (.int r6), .val (.int r7), .val (.ref x8), .val (.ref x10), .val (.int (1 : Int32)), .unset] [])
          refine own_st (fun t_ k_ => XS.iload X241.here hx rfl (hb hby at_210) rfl k_) ?_
          show own_Go p e below _ T241 (mkF m 212 #[.val (.int le), .val (.int ff), .val (.int tt), .val (.int mo), .val (.int (3 : Int32)), .val (.int (3 : Int32)), .val (.int r2), .val (.int r3), .val (.int r4), .val (.int r5), .val (.int r6), .val (.int r7), .val (.ref x8), .val (.ref x10), .val (.int (1 : Int32)), .unset] [(.int r3)])
          refine own_st (fun t_ k_ => XS.iload X241.here hx rfl (hb hby at_212) rfl k_) ?_
          show own_Go p e below _ T241 (mkF m 214 #[.val (.int le), .val (.int ff), .val (.int tt), .val (.int mo), .val (.int (3 : Int32)), .val (.int (3 : Int32)), .val (.int r2), .val (.int r3), .val (.int r4), .val (.int r5), .val (.int r6), .val (.int r7), .val (.ref x8), .val (.ref x10), .val (.int (1 : Int32)), .unset] [(.int r6), (.int r3)])
          refine own_callS X241 hx (y := (⟨"com/example/hebelwerk/hebelwerk/io/FixedFormMatchesPinLaw", "fits", "(CC)Z"⟩ : MethodName)) hown (mvT hZ (hw _ (List.mem_of_getElem? (i := 67) rfl))) (mvT hZ (hw _ (List.mem_of_getElem? (i := 68) rfl))) (mvT hZ (hw _ (List.mem_of_getElem? (i := 2) rfl))) (mvT hZ (hw _ (List.mem_of_getElem? (i := 69) rfl))) (by decide) (backOf (W := 0) (rmFI l Z a0 hw [] r3 r6 T10.heap n0 (Nat.le_trans Z0 K10.1)) hZ (hw _ (List.mem_of_getElem? (i := 69) rfl)) (hw _ (List.mem_of_getElem? (i := 2) rfl)) (by decide) (by decide)) (g := (mkF m 214 #[.val (.int le), .val (.int ff), .val (.int tt), .val (.int mo), .val (.int (3 : Int32)), .val (.int (3 : Int32)), .val (.int r2), .val (.int r3), .val (.int r4), .val (.int r5), .val (.int r6), .val (.int r7), .val (.ref x8), .val (.ref x10), .val (.int (1 : Int32)), .unset] [(.int r6), (.int r3)])) rfl (by rw [hml]; rfl) (argsL := [(.int r3), (.int r6)]) (rest := []) (lenOf pd_10 rfl) rfl (by show 2 * 0 + _ ≤ _; exact Nat.le_of_eq rfl) (hb hby at_214) rfl hh241 (by decide) (by decide) ?_
          rintro v274 T274 L274 X274 ⟨rfl, Nq274, hh274⟩
          have N274 := Fr.app N241 Nq274
          show own_Go p e below _ T274 (mkF m 217 #[.val (.int le), .val (.int ff), .val (.int tt), .val (.int mo), .val (.int (3 : Int32)), .val (.int (3 : Int32)), .val (.int r2), .val (.int r3), .val (.int r4), .val (.int r5), .val (.int r6), .val (.int r7), .val (.ref x8), .val (.ref x10), .val (.int (1 : Int32)), .unset] [(.int (own_fits r3 r6))])
          by_cases hz275 : (own_fits r3 r6) = (0 : Int32)
          · refine own_st (fun t_ k_ => XS.ifYes X274.here hx rfl (pc0 := 217) (pc' := 224) rfl (hb hby at_217) rfl ((if0 _ _).trans (teq hz275).1) (by decide) (by decide) k_) ?_
            show own_Go p e below _ T274 (mkF m 224 #[.val (.int le), .val (.int ff), .val (.int tt), .val (.int mo), .val (.int (3 : Int32)), .val (.int (3 : Int32)), .val (.int r2), .val (.int r3), .val (.int r4), .val (.int r5), .val (.int r6), .val (.int r7), .val (.ref x8), .val (.ref x10), .val (.int (1 : Int32)), .unset] [])
            refine own_st (fun t_ k_ => XS.iconst X274.here hx rfl (hb hby at_224) k_) ?_
            show own_Go p e below _ T274 (mkF m 225 #[.val (.int le), .val (.int ff), .val (.int tt), .val (.int mo), .val (.int (3 : Int32)), .val (.int (3 : Int32)), .val (.int r2), .val (.int r3), .val (.int r4), .val (.int r5), .val (.int r6), .val (.int r7), .val (.ref x8), .val (.ref x10), .val (.int (1 : Int32)), .unset] [(.int (0 : Int32))])
            refine own_st (fun t_ k_ => XS.istore X274.here hx rfl (hb hby at_225) rfl (l' := #[.val (.int le), .val (.int ff), .val (.int tt), .val (.int mo), .val (.int (3 : Int32)), .val (.int (3 : Int32)), .val (.int r2), .val (.int r3), .val (.int r4), .val (.int r5), .val (.int r6), .val (.int r7), .val (.ref x8), .val (.ref x10), .val (.int (0 : Int32)), .unset]) rfl k_) ?_
            show own_Go p e below _ T274 (mkF m 227 #[.val (.int le), .val (.int ff), .val (.int tt), .val (.int mo), .val (.int (3 : Int32)), .val (.int (3 : Int32)), .val (.int r2), .val (.int r3), .val (.int r4), .val (.int r5), .val (.int r6), .val (.int r7), .val (.ref x8), .val (.ref x10), .val (.int (0 : Int32)), .unset] [])
            refine own_st (fun t_ k_ => XS.iload X274.here hx rfl (hb hby at_227) rfl k_) ?_
            show own_Go p e below _ T274 (mkF m 229 #[.val (.int le), .val (.int ff), .val (.int tt), .val (.int mo), .val (.int (3 : Int32)), .val (.int (3 : Int32)), .val (.int r2), .val (.int r3), .val (.int r4), .val (.int r5), .val (.int r6), .val (.int r7), .val (.ref x8), .val (.ref x10), .val (.int (0 : Int32)), .unset] [(.int (3 : Int32))])
            refine own_st (fun t_ k_ => XS.iconst X274.here hx rfl (hb hby at_229) k_) ?_
            show own_Go p e below _ T274 (mkF m 230 #[.val (.int le), .val (.int ff), .val (.int tt), .val (.int mo), .val (.int (3 : Int32)), .val (.int (3 : Int32)), .val (.int r2), .val (.int r3), .val (.int r4), .val (.int r5), .val (.int r6), .val (.int r7), .val (.ref x8), .val (.ref x10), .val (.int (0 : Int32)), .unset] [(.int (2 : Int32)), (.int (3 : Int32))])
            refine own_st (fun t_ k_ => XS.icmpNo X274.here hx rfl (hb hby at_230) rfl (by decide) k_) ?_
            show own_Go p e below _ T274 (mkF m 233 #[.val (.int le), .val (.int ff), .val (.int tt), .val (.int mo), .val (.int (3 : Int32)), .val (.int (3 : Int32)), .val (.int r2), .val (.int r3), .val (.int r4), .val (.int r5), .val (.int r6), .val (.int r7), .val (.ref x8), .val (.ref x10), .val (.int (0 : Int32)), .unset] [])
            refine own_st (fun t_ k_ => XS.iload X274.here hx rfl (hb hby at_233) rfl k_) ?_
            show own_Go p e below _ T274 (mkF m 235 #[.val (.int le), .val (.int ff), .val (.int tt), .val (.int mo), .val (.int (3 : Int32)), .val (.int (3 : Int32)), .val (.int r2), .val (.int r3), .val (.int r4), .val (.int r5), .val (.int r6), .val (.int r7), .val (.ref x8), .val (.ref x10), .val (.int (0 : Int32)), .unset] [(.int (0 : Int32))])
            refine own_st (fun t_ k_ => XS.ifYes X274.here hx rfl (pc0 := 235) (pc' := 252) rfl (hb hby at_235) rfl (by decide) (by decide) (by decide) k_) ?_
            show own_Go p e below _ T274 (mkF m 252 #[.val (.int le), .val (.int ff), .val (.int tt), .val (.int mo), .val (.int (3 : Int32)), .val (.int (3 : Int32)), .val (.int r2), .val (.int r3), .val (.int r4), .val (.int r5), .val (.int r6), .val (.int r7), .val (.ref x8), .val (.ref x10), .val (.int (0 : Int32)), .unset] [])
            refine own_st (fun t_ k_ => XS.iconst X274.here hx rfl (hb hby at_252) k_) ?_
            show own_Go p e below _ T274 (mkF m 253 #[.val (.int le), .val (.int ff), .val (.int tt), .val (.int mo), .val (.int (3 : Int32)), .val (.int (3 : Int32)), .val (.int r2), .val (.int r3), .val (.int r4), .val (.int r5), .val (.int r6), .val (.int r7), .val (.ref x8), .val (.ref x10), .val (.int (0 : Int32)), .unset] [(.int (0 : Int32))])
            refine own_st (fun t_ k_ => XS.istore X274.here hx rfl (hb hby at_253) rfl (l' := #[.val (.int le), .val (.int ff), .val (.int tt), .val (.int mo), .val (.int (3 : Int32)), .val (.int (3 : Int32)), .val (.int r2), .val (.int r3), .val (.int r4), .val (.int r5), .val (.int r6), .val (.int r7), .val (.ref x8), .val (.ref x10), .val (.int (0 : Int32)), .unset]) rfl k_) ?_
            show own_Go p e below _ T274 (mkF m 255 #[.val (.int le), .val (.int ff), .val (.int tt), .val (.int mo), .val (.int (3 : Int32)), .val (.int (3 : Int32)), .val (.int r2), .val (.int r3), .val (.int r4), .val (.int r5), .val (.int r6), .val (.int r7), .val (.ref x8), .val (.ref x10), .val (.int (0 : Int32)), .unset] [])
            obtain ⟨T276, h276, X276, e276, E276, A276, D276, cel276, st276⟩ := newO X274 hx hZ hown (hw _ (List.mem_of_getElem? (i := 32) rfl)) (hw _ (List.mem_of_getElem? (i := 33) rfl)) (hw _ (List.mem_of_getElem? (i := 34) rfl)) hh274 (g := (mkF m 255 #[.val (.int le), .val (.int ff), .val (.int tt), .val (.int mo), .val (.int (3 : Int32)), .val (.int (3 : Int32)), .val (.int r2), .val (.int r3), .val (.int r4), .val (.int r5), .val (.int r6), .val (.int r7), .val (.ref x8), .val (.ref x10), .val (.int (0 : Int32)), .unset] [])) rfl (hb hby at_255) (by decide) (by decide)
            obtain ⟨nb276, g276⟩ : ∃ z, z = T10.heap.size := ⟨_, rfl⟩
            rw [← g276] at A276 D276 cel276 st276
            refine own_st st276 ?_
            have g_nb276 : n0 ≤ nb276 := Nat.le_trans (Nat.le_trans Z0 K10.1) (Nat.le_of_eq g276.symm)
            have K276 : Keep h0 h276 [] := K10.ext E276
            have sz_nb276 : h0.size ≤ nb276 := Nat.le_trans K10.1 (Nat.le_of_eq g276.symm)
            have B276 := own_Bk.ext E276 B10
            have Sf276 := Safe.ext E276 (own_Bk.ch B10) (Safe.new (Nat.le_of_eq g276.symm))
            have F276_form : Fld Z h276 nb276 "com/example/hebelwerk/hebelwerk/io/FixedForm" "form" "Ljava/lang/String;" .null := D276 (Or.inr (hw _ (List.mem_of_getElem? (i := 40) rfl))) (ty := (.object "java/lang/String")) (by decide)
            show own_Go p e below _ T276 (mkF m 258 #[.val (.int le), .val (.int ff), .val (.int tt), .val (.int mo), .val (.int (3 : Int32)), .val (.int (3 : Int32)), .val (.int r2), .val (.int r3), .val (.int r4), .val (.int r5), .val (.int r6), .val (.int r7), .val (.ref x8), .val (.ref x10), .val (.int (0 : Int32)), .unset] [(.ref nb276)])
            refine own_st (fun t_ k_ => XS.dup X276.here hx rfl (hb hby at_258) rfl rfl k_) ?_
            show own_Go p e below _ T276 (mkF m 259 #[.val (.int le), .val (.int ff), .val (.int tt), .val (.int mo), .val (.int (3 : Int32)), .val (.int (3 : Int32)), .val (.int r2), .val (.int r3), .val (.int r4), .val (.int r5), .val (.int r6), .val (.int r7), .val (.ref x8), .val (.ref x10), .val (.int (0 : Int32)), .unset] [(.ref nb276), (.ref nb276)])
            refine own_st (fun t_ k_ => XS.aload X276.here hx rfl (hb hby at_259) rfl rfl k_) ?_
            show own_Go p e below _ T276 (mkF m 261 #[.val (.int le), .val (.int ff), .val (.int tt), .val (.int mo), .val (.int (3 : Int32)), .val (.int (3 : Int32)), .val (.int r2), .val (.int r3), .val (.int r4), .val (.int r5), .val (.int r6), .val (.int r7), .val (.ref x8), .val (.ref x10), .val (.int (0 : Int32)), .unset] [(.ref x8), (.ref nb276), (.ref nb276)])
            refine own_callN X276 hx (y := (⟨"com/example/hebelwerk/hebelwerk/io/FixedForm", "<init>", "(Ljava/lang/String;)V"⟩ : MethodName)) rfl hown (mvT hZ (hw _ (List.mem_of_getElem? (i := 35) rfl))) (mvT hZ (hw _ (List.mem_of_getElem? (i := 36) rfl))) (mvT hZ (hw _ (List.mem_of_getElem? (i := 37) rfl))) (by decide) (backOf (W := 1) (rmCI l Z a0 hw [] nb276 x8 h276 n0 (Nat.le_trans Z0 K276.1) g_nb276 A276 F276_form) hZ (hw _ (List.mem_of_getElem? (i := 37) rfl)) (hw _ (List.mem_of_getElem? (i := 34) rfl)) (by decide) (by decide)) (a := nb276) (g := (mkF m 261 #[.val (.int le), .val (.int ff), .val (.int tt), .val (.int mo), .val (.int (3 : Int32)), .val (.int (3 : Int32)), .val (.int r2), .val (.int r3), .val (.int r4), .val (.int r5), .val (.int r6), .val (.int r7), .val (.ref x8), .val (.ref x10), .val (.int (0 : Int32)), .unset] [(.ref x8), (.ref nb276), (.ref nb276)])) rfl (by rw [hml]; rfl) (argsL := [(.ref x8)]) (rest := [(.ref nb276)]) (lenOf pd_8 rfl) rfl (by show 2 * 0 + _ ≤ _; exact Nat.le_of_eq rfl) (hb hby at_261) rfl e276 (by decide) (by decide) ?_
            rintro v277 T277 L277 X277 ⟨rfl, Nq277, Kq277, Eq277, Fk277⟩
            have N277 := Fr.app N274 Nq277
            have K277 : Keep h0 T277.heap [] := K276.trans Kq277 (allS (Or.inr sz_nb276) all0)
            have B277 := own_Bk.keep Kq277 (sfS Sf276 sf0) B276
            show own_Go p e below _ T277 (mkF m 264 #[.val (.int le), .val (.int ff), .val (.int tt), .val (.int mo), .val (.int (3 : Int32)), .val (.int (3 : Int32)), .val (.int r2), .val (.int r3), .val (.int r4), .val (.int r5), .val (.int r6), .val (.int r7), .val (.ref x8), .val (.ref x10), .val (.int (0 : Int32)), .unset] [(.ref nb276)])
            refine own_st (fun t_ k_ => XS.aload X277.here hx rfl (hb hby at_264) rfl rfl k_) ?_
            show own_Go p e below _ T277 (mkF m 266 #[.val (.int le), .val (.int ff), .val (.int tt), .val (.int mo), .val (.int (3 : Int32)), .val (.int (3 : Int32)), .val (.int r2), .val (.int r3), .val (.int r4), .val (.int r5), .val (.int r6), .val (.int r7), .val (.ref x8), .val (.ref x10), .val (.int (0 : Int32)), .unset] [(.ref x10), (.ref nb276)])
            have f278 := (f9.keep Kq10 all0)
            have f279 := (f278.ext E276)
            have f280 := (f279.keep Kq277 (allS g_nb276 all0))
            have f281 := (Ex8.keep Kq10)
            have f282 := (Exa.ext E276 f281)
            have f283 := (f282.keep Kq277)
            have f284 := (Cq8.keep Kq10 nin0)
            have f285 := (Fld.ext E276 f284)
            have ne286 : x8 ≠ nb276 := (Nat.ne_of_lt (Nat.lt_of_lt_of_le f281.lt (Nat.le_of_eq g276.symm)))
            have f287 := (f285.keep Kq277 (ninS ne286 nin0))
            have f288 := (Vq8.keep Kq10 nin0)
            have f289 := (Fld.ext E276 f288)
            have f290 := (f289.keep Kq277 (ninS ne286 nin0))
            have f291 := (Aq8.keep Kq10 nin0)
            have f292 := (f291.ext E276)
            have ne293 : t8 ≠ nb276 := (Nat.ne_of_lt (Nat.lt_of_lt_of_le f291.lt (Nat.le_of_eq g276.symm)))
            have f294 := (f292.keep Kq277 (ninS ne293 nin0))
            have f295 := (Exa.ext E276 Ex10)
            have f296 := (f295.keep Kq277)
            have f297 := (Fld.ext E276 Cq10)
            have ne298 : x10 ≠ nb276 := (Nat.ne_of_lt (Nat.lt_of_lt_of_le Ex10.lt (Nat.le_of_eq g276.symm)))
            have f299 := (f297.keep Kq277 (ninS ne298 nin0))
            have f300 := (Fld.ext E276 Vq10)
            have f301 := (f300.keep Kq277 (ninS ne298 nin0))
            have f302 := (Aq10.ext E276)
            have ne303 : t10 ≠ nb276 := (Nat.ne_of_lt (Nat.lt_of_lt_of_le Aq10.lt (Nat.le_of_eq g276.symm)))
            have f304 := (f302.keep Kq277 (ninS ne303 nin0))
            obtain ⟨cq306, kq306, q306a, q306b, q306c⟩ := isOf hZ rfl Eq277
            refine own_callV X277 hx (y := (⟨"com/example/hebelwerk/hebelwerk/io/FixedForm", "matches", "(Ljava/lang/String;)Z"⟩ : MethodName)) (z := (⟨"com/example/hebelwerk/hebelwerk/io/FixedForm", "matches", "(Ljava/lang/String;)Z"⟩ : MethodName)) hown (mvT hZ (hw _ (List.mem_of_getElem? (i := 41) rfl))) (mvT hZ (hw _ (List.mem_of_getElem? (i := 42) rfl))) (notFace_of_selects (args := #[]) (mvT hZ (hw _ (List.mem_of_getElem? (i := 44) rfl)))) (mvT hZ (hw _ (List.mem_of_getElem? (i := 44) rfl))) (mvT hZ (hw _ (List.mem_of_getElem? (i := 43) rfl))) (by decide) (backOf (W := 0) (rmM3 l Z a0 hw [] nb276 x8 t8 x10 t10 kb8 kb10 (own_str (3 : Int32) [r2, r3, r4]) (own_str (3 : Int32) [r5, r6, r7]) G fm r2 r3 r4 r5 r6 r7 (0 : Int32) T277.heap n0 (Nat.le_trans Z0 K277.1) SC hCS f280 SF rG Eq277 Fk277 f283 f287 f290 f294 hp8 (own_strl (3 : Int32) r2 r3 r4) f296 f299 f301 f304 hp10 (own_strl (3 : Int32) r5 r6 r7) rfl rfl (by rw [if_neg hz242, if_pos hz275])) hZ (hw _ (List.mem_of_getElem? (i := 45) rfl)) (hw _ (List.mem_of_getElem? (i := 34) rfl)) (by decide) (by decide)) q306a q306c (g := (mkF m 266 #[.val (.int le), .val (.int ff), .val (.int tt), .val (.int mo), .val (.int (3 : Int32)), .val (.int (3 : Int32)), .val (.int r2), .val (.int r3), .val (.int r4), .val (.int r5), .val (.int r6), .val (.int r7), .val (.ref x8), .val (.ref x10), .val (.int (0 : Int32)), .unset] [(.ref x10), (.ref nb276)])) rfl (by rw [hml]; rfl) (argsL := [(.ref x10)]) (rest := []) (lenOf pd_9 rfl) rfl (by show 2 * 0 + _ ≤ _; exact Nat.le_of_eq rfl) (hb hby at_266) rfl rfl (by decide) (by decide) ?_
            rintro v305 T305 L305 X305 ⟨rfl, Nq305, hh305⟩
            have N305 := Fr.app N277 Nq305
            show own_Go p e below _ T305 (mkF m 269 #[.val (.int le), .val (.int ff), .val (.int tt), .val (.int mo), .val (.int (3 : Int32)), .val (.int (3 : Int32)), .val (.int r2), .val (.int r3), .val (.int r4), .val (.int r5), .val (.int r6), .val (.int r7), .val (.ref x8), .val (.ref x10), .val (.int (0 : Int32)), .unset] [(.int (0 : Int32))])
            refine own_st (fun t_ k_ => XS.istore X305.here hx rfl (hb hby at_269) rfl (l' := #[.val (.int le), .val (.int ff), .val (.int tt), .val (.int mo), .val (.int (3 : Int32)), .val (.int (3 : Int32)), .val (.int r2), .val (.int r3), .val (.int r4), .val (.int r5), .val (.int r6), .val (.int r7), .val (.ref x8), .val (.ref x10), .val (.int (0 : Int32)), .val (.int (0 : Int32))]) rfl k_) ?_
            show own_Go p e below _ T305 (mkF m 271 #[.val (.int le), .val (.int ff), .val (.int tt), .val (.int mo), .val (.int (3 : Int32)), .val (.int (3 : Int32)), .val (.int r2), .val (.int r3), .val (.int r4), .val (.int r5), .val (.int r6), .val (.int r7), .val (.ref x8), .val (.ref x10), .val (.int (0 : Int32)), .val (.int (0 : Int32))] [])
            refine own_st (fun t_ k_ => XS.iload X305.here hx rfl (hb hby at_271) rfl k_) ?_
            show own_Go p e below _ T305 (mkF m 273 #[.val (.int le), .val (.int ff), .val (.int tt), .val (.int mo), .val (.int (3 : Int32)), .val (.int (3 : Int32)), .val (.int r2), .val (.int r3), .val (.int r4), .val (.int r5), .val (.int r6), .val (.int r7), .val (.ref x8), .val (.ref x10), .val (.int (0 : Int32)), .val (.int (0 : Int32))] [(.int (0 : Int32))])
            refine own_st (fun t_ k_ => XS.iload X305.here hx rfl (hb hby at_273) rfl k_) ?_
            show own_Go p e below _ T305 (mkF m 275 #[.val (.int le), .val (.int ff), .val (.int tt), .val (.int mo), .val (.int (3 : Int32)), .val (.int (3 : Int32)), .val (.int r2), .val (.int r3), .val (.int r4), .val (.int r5), .val (.int r6), .val (.int r7), .val (.ref x8), .val (.ref x10), .val (.int (0 : Int32)), .val (.int (0 : Int32))] [(.int (0 : Int32)), (.int (0 : Int32))])
            refine own_st (fun t_ k_ => XS.icmpNo X305.here hx rfl (hb hby at_275) rfl (by decide) k_) ?_
            show own_Go p e below _ T305 (mkF m 278 #[.val (.int le), .val (.int ff), .val (.int tt), .val (.int mo), .val (.int (3 : Int32)), .val (.int (3 : Int32)), .val (.int r2), .val (.int r3), .val (.int r4), .val (.int r5), .val (.int r6), .val (.int r7), .val (.ref x8), .val (.ref x10), .val (.int (0 : Int32)), .val (.int (0 : Int32))] [])
            refine own_st (fun t_ k_ => XS.iconst X305.here hx rfl (hb hby at_278) k_) ?_
            show own_Go p e below _ T305 (mkF m 279 #[.val (.int le), .val (.int ff), .val (.int tt), .val (.int mo), .val (.int (3 : Int32)), .val (.int (3 : Int32)), .val (.int r2), .val (.int r3), .val (.int r4), .val (.int r5), .val (.int r6), .val (.int r7), .val (.ref x8), .val (.ref x10), .val (.int (0 : Int32)), .val (.int (0 : Int32))] [(.int (1 : Int32))])
            refine own_st (fun t_ k_ => XS.goto X305.here hx rfl (pc0 := 279) (pc' := 283) rfl (hb hby at_279) (by decide) (by decide) k_) ?_
            show own_Go p e below _ T305 (mkF m 283 #[.val (.int le), .val (.int ff), .val (.int tt), .val (.int mo), .val (.int (3 : Int32)), .val (.int (3 : Int32)), .val (.int r2), .val (.int r3), .val (.int r4), .val (.int r5), .val (.int r6), .val (.int r7), .val (.ref x8), .val (.ref x10), .val (.int (0 : Int32)), .val (.int (0 : Int32))] [(.int (1 : Int32))])
            refine own_retNS X305 hx hlk hZ hEL hh305 hh B277 (t := .boolean) Bd.returns (by simp) (hb hby at_283) ?_ (by decide) (by decide)
            show Q0 n0 _ T305.heap _
            rw [hh305]
            exact ⟨rfl, N305⟩
          · refine own_st (fun t_ k_ => XS.ifNo X274.here hx rfl (hb hby at_217) rfl ((if0 _ _).trans (feq hz275).1) k_) ?_
            show own_Go p e below _ T274 (mkF m 220 #[.val (.int le), .val (.int ff), .val (.int tt), .val (.int mo), .val (.int (3 : Int32)), .val (.int (3 : Int32)), .val (.int r2), .val (.int r3), .val (.int r4), .val (.int r5), .val (.int r6), .val (.int r7), .val (.ref x8), .val (.ref x10), .val (.int (1 : Int32)), .unset] [])
            refine own_st (fun t_ k_ => XS.iconst X274.here hx rfl (hb hby at_220) k_) ?_
            show own_Go p e below _ T274 (mkF m 221 #[.val (.int le), .val (.int ff), .val (.int tt), .val (.int mo), .val (.int (3 : Int32)), .val (.int (3 : Int32)), .val (.int r2), .val (.int r3), .val (.int r4), .val (.int r5), .val (.int r6), .val (.int r7), .val (.ref x8), .val (.ref x10), .val (.int (1 : Int32)), .unset] [(.int (1 : Int32))])
            refine own_st (fun t_ k_ => XS.goto X274.here hx rfl (pc0 := 221) (pc' := 225) rfl (hb hby at_221) (by decide) (by decide) k_) ?_
            show own_Go p e below _ T274 (mkF m 225 #[.val (.int le), .val (.int ff), .val (.int tt), .val (.int mo), .val (.int (3 : Int32)), .val (.int (3 : Int32)), .val (.int r2), .val (.int r3), .val (.int r4), .val (.int r5), .val (.int r6), .val (.int r7), .val (.ref x8), .val (.ref x10), .val (.int (1 : Int32)), .unset] [(.int (1 : Int32))])
            refine own_st (fun t_ k_ => XS.istore X274.here hx rfl (hb hby at_225) rfl (l' := #[.val (.int le), .val (.int ff), .val (.int tt), .val (.int mo), .val (.int (3 : Int32)), .val (.int (3 : Int32)), .val (.int r2), .val (.int r3), .val (.int r4), .val (.int r5), .val (.int r6), .val (.int r7), .val (.ref x8), .val (.ref x10), .val (.int (1 : Int32)), .unset]) rfl k_) ?_
            show own_Go p e below _ T274 (mkF m 227 #[.val (.int le), .val (.int ff), .val (.int tt), .val (.int mo), .val (.int (3 : Int32)), .val (.int (3 : Int32)), .val (.int r2), .val (.int r3), .val (.int r4), .val (.int r5), .val (.int r6), .val (.int r7), .val (.ref x8), .val (.ref x10), .val (.int (1 : Int32)), .unset] [])
            refine own_st (fun t_ k_ => XS.iload X274.here hx rfl (hb hby at_227) rfl k_) ?_
            show own_Go p e below _ T274 (mkF m 229 #[.val (.int le), .val (.int ff), .val (.int tt), .val (.int mo), .val (.int (3 : Int32)), .val (.int (3 : Int32)), .val (.int r2), .val (.int r3), .val (.int r4), .val (.int r5), .val (.int r6), .val (.int r7), .val (.ref x8), .val (.ref x10), .val (.int (1 : Int32)), .unset] [(.int (3 : Int32))])
            refine own_st (fun t_ k_ => XS.iconst X274.here hx rfl (hb hby at_229) k_) ?_
            show own_Go p e below _ T274 (mkF m 230 #[.val (.int le), .val (.int ff), .val (.int tt), .val (.int mo), .val (.int (3 : Int32)), .val (.int (3 : Int32)), .val (.int r2), .val (.int r3), .val (.int r4), .val (.int r5), .val (.int r6), .val (.int r7), .val (.ref x8), .val (.ref x10), .val (.int (1 : Int32)), .unset] [(.int (2 : Int32)), (.int (3 : Int32))])
            refine own_st (fun t_ k_ => XS.icmpNo X274.here hx rfl (hb hby at_230) rfl (by decide) k_) ?_
            show own_Go p e below _ T274 (mkF m 233 #[.val (.int le), .val (.int ff), .val (.int tt), .val (.int mo), .val (.int (3 : Int32)), .val (.int (3 : Int32)), .val (.int r2), .val (.int r3), .val (.int r4), .val (.int r5), .val (.int r6), .val (.int r7), .val (.ref x8), .val (.ref x10), .val (.int (1 : Int32)), .unset] [])
            refine own_st (fun t_ k_ => XS.iload X274.here hx rfl (hb hby at_233) rfl k_) ?_
            show own_Go p e below _ T274 (mkF m 235 #[.val (.int le), .val (.int ff), .val (.int tt), .val (.int mo), .val (.int (3 : Int32)), .val (.int (3 : Int32)), .val (.int r2), .val (.int r3), .val (.int r4), .val (.int r5), .val (.int r6), .val (.int r7), .val (.ref x8), .val (.ref x10), .val (.int (1 : Int32)), .unset] [(.int (1 : Int32))])
            refine own_st (fun t_ k_ => XS.ifNo X274.here hx rfl (hb hby at_235) rfl (by decide) k_) ?_
            show own_Go p e below _ T274 (mkF m 238 #[.val (.int le), .val (.int ff), .val (.int tt), .val (.int mo), .val (.int (3 : Int32)), .val (.int (3 : Int32)), .val (.int r2), .val (.int r3), .val (.int r4), .val (.int r5), .val (.int r6), .val (.int r7), .val (.ref x8), .val (.ref x10), .val (.int (1 : Int32)), .unset] [])
            refine own_st (fun t_ k_ => XS.iload X274.here hx rfl (hb hby at_238) rfl k_) ?_
            show own_Go p e below _ T274 (mkF m 240 #[.val (.int le), .val (.int ff), .val (.int tt), .val (.int mo), .val (.int (3 : Int32)), .val (.int (3 : Int32)), .val (.int r2), .val (.int r3), .val (.int r4), .val (.int r5), .val (.int r6), .val (.int r7), .val (.ref x8), .val (.ref x10), .val (.int (1 : Int32)), .unset] [(.int r4)])
            refine own_st (fun t_ k_ => XS.iload X274.here hx rfl (hb hby at_240) rfl k_) ?_
            show own_Go p e below _ T274 (mkF m 242 #[.val (.int le), .val (.int ff), .val (.int tt), .val (.int mo), .val (.int (3 : Int32)), .val (.int (3 : Int32)), .val (.int r2), .val (.int r3), .val (.int r4), .val (.int r5), .val (.int r6), .val (.int r7), .val (.ref x8), .val (.ref x10), .val (.int (1 : Int32)), .unset] [(.int r7), (.int r4)])
            refine own_callS X274 hx (y := (⟨"com/example/hebelwerk/hebelwerk/io/FixedFormMatchesPinLaw", "fits", "(CC)Z"⟩ : MethodName)) hown (mvT hZ (hw _ (List.mem_of_getElem? (i := 67) rfl))) (mvT hZ (hw _ (List.mem_of_getElem? (i := 68) rfl))) (mvT hZ (hw _ (List.mem_of_getElem? (i := 2) rfl))) (mvT hZ (hw _ (List.mem_of_getElem? (i := 69) rfl))) (by decide) (backOf (W := 0) (rmFI l Z a0 hw [] r4 r7 T10.heap n0 (Nat.le_trans Z0 K10.1)) hZ (hw _ (List.mem_of_getElem? (i := 69) rfl)) (hw _ (List.mem_of_getElem? (i := 2) rfl)) (by decide) (by decide)) (g := (mkF m 242 #[.val (.int le), .val (.int ff), .val (.int tt), .val (.int mo), .val (.int (3 : Int32)), .val (.int (3 : Int32)), .val (.int r2), .val (.int r3), .val (.int r4), .val (.int r5), .val (.int r6), .val (.int r7), .val (.ref x8), .val (.ref x10), .val (.int (1 : Int32)), .unset] [(.int r7), (.int r4)])) rfl (by rw [hml]; rfl) (argsL := [(.int r4), (.int r7)]) (rest := []) (lenOf pd_10 rfl) rfl (by show 2 * 0 + _ ≤ _; exact Nat.le_of_eq rfl) (hb hby at_242) rfl hh274 (by decide) (by decide) ?_
            rintro v307 T307 L307 X307 ⟨rfl, Nq307, hh307⟩
            have N307 := Fr.app N274 Nq307
            show own_Go p e below _ T307 (mkF m 245 #[.val (.int le), .val (.int ff), .val (.int tt), .val (.int mo), .val (.int (3 : Int32)), .val (.int (3 : Int32)), .val (.int r2), .val (.int r3), .val (.int r4), .val (.int r5), .val (.int r6), .val (.int r7), .val (.ref x8), .val (.ref x10), .val (.int (1 : Int32)), .unset] [(.int (own_fits r4 r7))])
            by_cases hz308 : (own_fits r4 r7) = (0 : Int32)
            · refine own_st (fun t_ k_ => XS.ifYes X307.here hx rfl (pc0 := 245) (pc' := 252) rfl (hb hby at_245) rfl ((if0 _ _).trans (teq hz308).1) (by decide) (by decide) k_) ?_
              show own_Go p e below _ T307 (mkF m 252 #[.val (.int le), .val (.int ff), .val (.int tt), .val (.int mo), .val (.int (3 : Int32)), .val (.int (3 : Int32)), .val (.int r2), .val (.int r3), .val (.int r4), .val (.int r5), .val (.int r6), .val (.int r7), .val (.ref x8), .val (.ref x10), .val (.int (1 : Int32)), .unset] [])
              refine own_st (fun t_ k_ => XS.iconst X307.here hx rfl (hb hby at_252) k_) ?_
              show own_Go p e below _ T307 (mkF m 253 #[.val (.int le), .val (.int ff), .val (.int tt), .val (.int mo), .val (.int (3 : Int32)), .val (.int (3 : Int32)), .val (.int r2), .val (.int r3), .val (.int r4), .val (.int r5), .val (.int r6), .val (.int r7), .val (.ref x8), .val (.ref x10), .val (.int (1 : Int32)), .unset] [(.int (0 : Int32))])
              refine own_st (fun t_ k_ => XS.istore X307.here hx rfl (hb hby at_253) rfl (l' := #[.val (.int le), .val (.int ff), .val (.int tt), .val (.int mo), .val (.int (3 : Int32)), .val (.int (3 : Int32)), .val (.int r2), .val (.int r3), .val (.int r4), .val (.int r5), .val (.int r6), .val (.int r7), .val (.ref x8), .val (.ref x10), .val (.int (0 : Int32)), .unset]) rfl k_) ?_
              show own_Go p e below _ T307 (mkF m 255 #[.val (.int le), .val (.int ff), .val (.int tt), .val (.int mo), .val (.int (3 : Int32)), .val (.int (3 : Int32)), .val (.int r2), .val (.int r3), .val (.int r4), .val (.int r5), .val (.int r6), .val (.int r7), .val (.ref x8), .val (.ref x10), .val (.int (0 : Int32)), .unset] [])
              obtain ⟨T309, h309, X309, e309, E309, A309, D309, cel309, st309⟩ := newO X307 hx hZ hown (hw _ (List.mem_of_getElem? (i := 32) rfl)) (hw _ (List.mem_of_getElem? (i := 33) rfl)) (hw _ (List.mem_of_getElem? (i := 34) rfl)) hh307 (g := (mkF m 255 #[.val (.int le), .val (.int ff), .val (.int tt), .val (.int mo), .val (.int (3 : Int32)), .val (.int (3 : Int32)), .val (.int r2), .val (.int r3), .val (.int r4), .val (.int r5), .val (.int r6), .val (.int r7), .val (.ref x8), .val (.ref x10), .val (.int (0 : Int32)), .unset] [])) rfl (hb hby at_255) (by decide) (by decide)
              obtain ⟨nb309, g309⟩ : ∃ z, z = T10.heap.size := ⟨_, rfl⟩
              rw [← g309] at A309 D309 cel309 st309
              refine own_st st309 ?_
              have g_nb309 : n0 ≤ nb309 := Nat.le_trans (Nat.le_trans Z0 K10.1) (Nat.le_of_eq g309.symm)
              have K309 : Keep h0 h309 [] := K10.ext E309
              have sz_nb309 : h0.size ≤ nb309 := Nat.le_trans K10.1 (Nat.le_of_eq g309.symm)
              have B309 := own_Bk.ext E309 B10
              have Sf309 := Safe.ext E309 (own_Bk.ch B10) (Safe.new (Nat.le_of_eq g309.symm))
              have F309_form : Fld Z h309 nb309 "com/example/hebelwerk/hebelwerk/io/FixedForm" "form" "Ljava/lang/String;" .null := D309 (Or.inr (hw _ (List.mem_of_getElem? (i := 40) rfl))) (ty := (.object "java/lang/String")) (by decide)
              show own_Go p e below _ T309 (mkF m 258 #[.val (.int le), .val (.int ff), .val (.int tt), .val (.int mo), .val (.int (3 : Int32)), .val (.int (3 : Int32)), .val (.int r2), .val (.int r3), .val (.int r4), .val (.int r5), .val (.int r6), .val (.int r7), .val (.ref x8), .val (.ref x10), .val (.int (0 : Int32)), .unset] [(.ref nb309)])
              refine own_st (fun t_ k_ => XS.dup X309.here hx rfl (hb hby at_258) rfl rfl k_) ?_
              show own_Go p e below _ T309 (mkF m 259 #[.val (.int le), .val (.int ff), .val (.int tt), .val (.int mo), .val (.int (3 : Int32)), .val (.int (3 : Int32)), .val (.int r2), .val (.int r3), .val (.int r4), .val (.int r5), .val (.int r6), .val (.int r7), .val (.ref x8), .val (.ref x10), .val (.int (0 : Int32)), .unset] [(.ref nb309), (.ref nb309)])
              refine own_st (fun t_ k_ => XS.aload X309.here hx rfl (hb hby at_259) rfl rfl k_) ?_
              show own_Go p e below _ T309 (mkF m 261 #[.val (.int le), .val (.int ff), .val (.int tt), .val (.int mo), .val (.int (3 : Int32)), .val (.int (3 : Int32)), .val (.int r2), .val (.int r3), .val (.int r4), .val (.int r5), .val (.int r6), .val (.int r7), .val (.ref x8), .val (.ref x10), .val (.int (0 : Int32)), .unset] [(.ref x8), (.ref nb309), (.ref nb309)])
              refine own_callN X309 hx (y := (⟨"com/example/hebelwerk/hebelwerk/io/FixedForm", "<init>", "(Ljava/lang/String;)V"⟩ : MethodName)) rfl hown (mvT hZ (hw _ (List.mem_of_getElem? (i := 35) rfl))) (mvT hZ (hw _ (List.mem_of_getElem? (i := 36) rfl))) (mvT hZ (hw _ (List.mem_of_getElem? (i := 37) rfl))) (by decide) (backOf (W := 1) (rmCI l Z a0 hw [] nb309 x8 h309 n0 (Nat.le_trans Z0 K309.1) g_nb309 A309 F309_form) hZ (hw _ (List.mem_of_getElem? (i := 37) rfl)) (hw _ (List.mem_of_getElem? (i := 34) rfl)) (by decide) (by decide)) (a := nb309) (g := (mkF m 261 #[.val (.int le), .val (.int ff), .val (.int tt), .val (.int mo), .val (.int (3 : Int32)), .val (.int (3 : Int32)), .val (.int r2), .val (.int r3), .val (.int r4), .val (.int r5), .val (.int r6), .val (.int r7), .val (.ref x8), .val (.ref x10), .val (.int (0 : Int32)), .unset] [(.ref x8), (.ref nb309), (.ref nb309)])) rfl (by rw [hml]; rfl) (argsL := [(.ref x8)]) (rest := [(.ref nb309)]) (lenOf pd_8 rfl) rfl (by show 2 * 0 + _ ≤ _; exact Nat.le_of_eq rfl) (hb hby at_261) rfl e309 (by decide) (by decide) ?_
              rintro v310 T310 L310 X310 ⟨rfl, Nq310, Kq310, Eq310, Fk310⟩
              have N310 := Fr.app N307 Nq310
              have K310 : Keep h0 T310.heap [] := K309.trans Kq310 (allS (Or.inr sz_nb309) all0)
              have B310 := own_Bk.keep Kq310 (sfS Sf309 sf0) B309
              show own_Go p e below _ T310 (mkF m 264 #[.val (.int le), .val (.int ff), .val (.int tt), .val (.int mo), .val (.int (3 : Int32)), .val (.int (3 : Int32)), .val (.int r2), .val (.int r3), .val (.int r4), .val (.int r5), .val (.int r6), .val (.int r7), .val (.ref x8), .val (.ref x10), .val (.int (0 : Int32)), .unset] [(.ref nb309)])
              refine own_st (fun t_ k_ => XS.aload X310.here hx rfl (hb hby at_264) rfl rfl k_) ?_
              show own_Go p e below _ T310 (mkF m 266 #[.val (.int le), .val (.int ff), .val (.int tt), .val (.int mo), .val (.int (3 : Int32)), .val (.int (3 : Int32)), .val (.int r2), .val (.int r3), .val (.int r4), .val (.int r5), .val (.int r6), .val (.int r7), .val (.ref x8), .val (.ref x10), .val (.int (0 : Int32)), .unset] [(.ref x10), (.ref nb309)])
              have f311 := (f9.keep Kq10 all0)
              have f312 := (f311.ext E309)
              have f313 := (f312.keep Kq310 (allS g_nb309 all0))
              have f314 := (Ex8.keep Kq10)
              have f315 := (Exa.ext E309 f314)
              have f316 := (f315.keep Kq310)
              have f317 := (Cq8.keep Kq10 nin0)
              have f318 := (Fld.ext E309 f317)
              have ne319 : x8 ≠ nb309 := (Nat.ne_of_lt (Nat.lt_of_lt_of_le f314.lt (Nat.le_of_eq g309.symm)))
              have f320 := (f318.keep Kq310 (ninS ne319 nin0))
              have f321 := (Vq8.keep Kq10 nin0)
              have f322 := (Fld.ext E309 f321)
              have f323 := (f322.keep Kq310 (ninS ne319 nin0))
              have f324 := (Aq8.keep Kq10 nin0)
              have f325 := (f324.ext E309)
              have ne326 : t8 ≠ nb309 := (Nat.ne_of_lt (Nat.lt_of_lt_of_le f324.lt (Nat.le_of_eq g309.symm)))
              have f327 := (f325.keep Kq310 (ninS ne326 nin0))
              have f328 := (Exa.ext E309 Ex10)
              have f329 := (f328.keep Kq310)
              have f330 := (Fld.ext E309 Cq10)
              have ne331 : x10 ≠ nb309 := (Nat.ne_of_lt (Nat.lt_of_lt_of_le Ex10.lt (Nat.le_of_eq g309.symm)))
              have f332 := (f330.keep Kq310 (ninS ne331 nin0))
              have f333 := (Fld.ext E309 Vq10)
              have f334 := (f333.keep Kq310 (ninS ne331 nin0))
              have f335 := (Aq10.ext E309)
              have ne336 : t10 ≠ nb309 := (Nat.ne_of_lt (Nat.lt_of_lt_of_le Aq10.lt (Nat.le_of_eq g309.symm)))
              have f337 := (f335.keep Kq310 (ninS ne336 nin0))
              obtain ⟨cq339, kq339, q339a, q339b, q339c⟩ := isOf hZ rfl Eq310
              refine own_callV X310 hx (y := (⟨"com/example/hebelwerk/hebelwerk/io/FixedForm", "matches", "(Ljava/lang/String;)Z"⟩ : MethodName)) (z := (⟨"com/example/hebelwerk/hebelwerk/io/FixedForm", "matches", "(Ljava/lang/String;)Z"⟩ : MethodName)) hown (mvT hZ (hw _ (List.mem_of_getElem? (i := 41) rfl))) (mvT hZ (hw _ (List.mem_of_getElem? (i := 42) rfl))) (notFace_of_selects (args := #[]) (mvT hZ (hw _ (List.mem_of_getElem? (i := 44) rfl)))) (mvT hZ (hw _ (List.mem_of_getElem? (i := 44) rfl))) (mvT hZ (hw _ (List.mem_of_getElem? (i := 43) rfl))) (by decide) (backOf (W := 0) (rmM3 l Z a0 hw [] nb309 x8 t8 x10 t10 kb8 kb10 (own_str (3 : Int32) [r2, r3, r4]) (own_str (3 : Int32) [r5, r6, r7]) G fm r2 r3 r4 r5 r6 r7 (0 : Int32) T310.heap n0 (Nat.le_trans Z0 K310.1) SC hCS f313 SF rG Eq310 Fk310 f316 f320 f323 f327 hp8 (own_strl (3 : Int32) r2 r3 r4) f329 f332 f334 f337 hp10 (own_strl (3 : Int32) r5 r6 r7) rfl rfl (by rw [if_neg hz242, if_neg hz275, if_pos hz308])) hZ (hw _ (List.mem_of_getElem? (i := 45) rfl)) (hw _ (List.mem_of_getElem? (i := 34) rfl)) (by decide) (by decide)) q339a q339c (g := (mkF m 266 #[.val (.int le), .val (.int ff), .val (.int tt), .val (.int mo), .val (.int (3 : Int32)), .val (.int (3 : Int32)), .val (.int r2), .val (.int r3), .val (.int r4), .val (.int r5), .val (.int r6), .val (.int r7), .val (.ref x8), .val (.ref x10), .val (.int (0 : Int32)), .unset] [(.ref x10), (.ref nb309)])) rfl (by rw [hml]; rfl) (argsL := [(.ref x10)]) (rest := []) (lenOf pd_9 rfl) rfl (by show 2 * 0 + _ ≤ _; exact Nat.le_of_eq rfl) (hb hby at_266) rfl rfl (by decide) (by decide) ?_
              rintro v338 T338 L338 X338 ⟨rfl, Nq338, hh338⟩
              have N338 := Fr.app N310 Nq338
              show own_Go p e below _ T338 (mkF m 269 #[.val (.int le), .val (.int ff), .val (.int tt), .val (.int mo), .val (.int (3 : Int32)), .val (.int (3 : Int32)), .val (.int r2), .val (.int r3), .val (.int r4), .val (.int r5), .val (.int r6), .val (.int r7), .val (.ref x8), .val (.ref x10), .val (.int (0 : Int32)), .unset] [(.int (0 : Int32))])
              refine own_st (fun t_ k_ => XS.istore X338.here hx rfl (hb hby at_269) rfl (l' := #[.val (.int le), .val (.int ff), .val (.int tt), .val (.int mo), .val (.int (3 : Int32)), .val (.int (3 : Int32)), .val (.int r2), .val (.int r3), .val (.int r4), .val (.int r5), .val (.int r6), .val (.int r7), .val (.ref x8), .val (.ref x10), .val (.int (0 : Int32)), .val (.int (0 : Int32))]) rfl k_) ?_
              show own_Go p e below _ T338 (mkF m 271 #[.val (.int le), .val (.int ff), .val (.int tt), .val (.int mo), .val (.int (3 : Int32)), .val (.int (3 : Int32)), .val (.int r2), .val (.int r3), .val (.int r4), .val (.int r5), .val (.int r6), .val (.int r7), .val (.ref x8), .val (.ref x10), .val (.int (0 : Int32)), .val (.int (0 : Int32))] [])
              refine own_st (fun t_ k_ => XS.iload X338.here hx rfl (hb hby at_271) rfl k_) ?_
              show own_Go p e below _ T338 (mkF m 273 #[.val (.int le), .val (.int ff), .val (.int tt), .val (.int mo), .val (.int (3 : Int32)), .val (.int (3 : Int32)), .val (.int r2), .val (.int r3), .val (.int r4), .val (.int r5), .val (.int r6), .val (.int r7), .val (.ref x8), .val (.ref x10), .val (.int (0 : Int32)), .val (.int (0 : Int32))] [(.int (0 : Int32))])
              refine own_st (fun t_ k_ => XS.iload X338.here hx rfl (hb hby at_273) rfl k_) ?_
              show own_Go p e below _ T338 (mkF m 275 #[.val (.int le), .val (.int ff), .val (.int tt), .val (.int mo), .val (.int (3 : Int32)), .val (.int (3 : Int32)), .val (.int r2), .val (.int r3), .val (.int r4), .val (.int r5), .val (.int r6), .val (.int r7), .val (.ref x8), .val (.ref x10), .val (.int (0 : Int32)), .val (.int (0 : Int32))] [(.int (0 : Int32)), (.int (0 : Int32))])
              refine own_st (fun t_ k_ => XS.icmpNo X338.here hx rfl (hb hby at_275) rfl (by decide) k_) ?_
              show own_Go p e below _ T338 (mkF m 278 #[.val (.int le), .val (.int ff), .val (.int tt), .val (.int mo), .val (.int (3 : Int32)), .val (.int (3 : Int32)), .val (.int r2), .val (.int r3), .val (.int r4), .val (.int r5), .val (.int r6), .val (.int r7), .val (.ref x8), .val (.ref x10), .val (.int (0 : Int32)), .val (.int (0 : Int32))] [])
              refine own_st (fun t_ k_ => XS.iconst X338.here hx rfl (hb hby at_278) k_) ?_
              show own_Go p e below _ T338 (mkF m 279 #[.val (.int le), .val (.int ff), .val (.int tt), .val (.int mo), .val (.int (3 : Int32)), .val (.int (3 : Int32)), .val (.int r2), .val (.int r3), .val (.int r4), .val (.int r5), .val (.int r6), .val (.int r7), .val (.ref x8), .val (.ref x10), .val (.int (0 : Int32)), .val (.int (0 : Int32))] [(.int (1 : Int32))])
              refine own_st (fun t_ k_ => XS.goto X338.here hx rfl (pc0 := 279) (pc' := 283) rfl (hb hby at_279) (by decide) (by decide) k_) ?_
              show own_Go p e below _ T338 (mkF m 283 #[.val (.int le), .val (.int ff), .val (.int tt), .val (.int mo), .val (.int (3 : Int32)), .val (.int (3 : Int32)), .val (.int r2), .val (.int r3), .val (.int r4), .val (.int r5), .val (.int r6), .val (.int r7), .val (.ref x8), .val (.ref x10), .val (.int (0 : Int32)), .val (.int (0 : Int32))] [(.int (1 : Int32))])
              refine own_retNS X338 hx hlk hZ hEL hh338 hh B310 (t := .boolean) Bd.returns (by simp) (hb hby at_283) ?_ (by decide) (by decide)
              show Q0 n0 _ T338.heap _
              rw [hh338]
              exact ⟨rfl, N338⟩
            · refine own_st (fun t_ k_ => XS.ifNo X307.here hx rfl (hb hby at_245) rfl ((if0 _ _).trans (feq hz308).1) k_) ?_
              show own_Go p e below _ T307 (mkF m 248 #[.val (.int le), .val (.int ff), .val (.int tt), .val (.int mo), .val (.int (3 : Int32)), .val (.int (3 : Int32)), .val (.int r2), .val (.int r3), .val (.int r4), .val (.int r5), .val (.int r6), .val (.int r7), .val (.ref x8), .val (.ref x10), .val (.int (1 : Int32)), .unset] [])
              refine own_st (fun t_ k_ => XS.iconst X307.here hx rfl (hb hby at_248) k_) ?_
              show own_Go p e below _ T307 (mkF m 249 #[.val (.int le), .val (.int ff), .val (.int tt), .val (.int mo), .val (.int (3 : Int32)), .val (.int (3 : Int32)), .val (.int r2), .val (.int r3), .val (.int r4), .val (.int r5), .val (.int r6), .val (.int r7), .val (.ref x8), .val (.ref x10), .val (.int (1 : Int32)), .unset] [(.int (1 : Int32))])
              refine own_st (fun t_ k_ => XS.goto X307.here hx rfl (pc0 := 249) (pc' := 253) rfl (hb hby at_249) (by decide) (by decide) k_) ?_
              show own_Go p e below _ T307 (mkF m 253 #[.val (.int le), .val (.int ff), .val (.int tt), .val (.int mo), .val (.int (3 : Int32)), .val (.int (3 : Int32)), .val (.int r2), .val (.int r3), .val (.int r4), .val (.int r5), .val (.int r6), .val (.int r7), .val (.ref x8), .val (.ref x10), .val (.int (1 : Int32)), .unset] [(.int (1 : Int32))])
              refine own_st (fun t_ k_ => XS.istore X307.here hx rfl (hb hby at_253) rfl (l' := #[.val (.int le), .val (.int ff), .val (.int tt), .val (.int mo), .val (.int (3 : Int32)), .val (.int (3 : Int32)), .val (.int r2), .val (.int r3), .val (.int r4), .val (.int r5), .val (.int r6), .val (.int r7), .val (.ref x8), .val (.ref x10), .val (.int (1 : Int32)), .unset]) rfl k_) ?_
              show own_Go p e below _ T307 (mkF m 255 #[.val (.int le), .val (.int ff), .val (.int tt), .val (.int mo), .val (.int (3 : Int32)), .val (.int (3 : Int32)), .val (.int r2), .val (.int r3), .val (.int r4), .val (.int r5), .val (.int r6), .val (.int r7), .val (.ref x8), .val (.ref x10), .val (.int (1 : Int32)), .unset] [])
              obtain ⟨T340, h340, X340, e340, E340, A340, D340, cel340, st340⟩ := newO X307 hx hZ hown (hw _ (List.mem_of_getElem? (i := 32) rfl)) (hw _ (List.mem_of_getElem? (i := 33) rfl)) (hw _ (List.mem_of_getElem? (i := 34) rfl)) hh307 (g := (mkF m 255 #[.val (.int le), .val (.int ff), .val (.int tt), .val (.int mo), .val (.int (3 : Int32)), .val (.int (3 : Int32)), .val (.int r2), .val (.int r3), .val (.int r4), .val (.int r5), .val (.int r6), .val (.int r7), .val (.ref x8), .val (.ref x10), .val (.int (1 : Int32)), .unset] [])) rfl (hb hby at_255) (by decide) (by decide)
              obtain ⟨nb340, g340⟩ : ∃ z, z = T10.heap.size := ⟨_, rfl⟩
              rw [← g340] at A340 D340 cel340 st340
              refine own_st st340 ?_
              have g_nb340 : n0 ≤ nb340 := Nat.le_trans (Nat.le_trans Z0 K10.1) (Nat.le_of_eq g340.symm)
              have K340 : Keep h0 h340 [] := K10.ext E340
              have sz_nb340 : h0.size ≤ nb340 := Nat.le_trans K10.1 (Nat.le_of_eq g340.symm)
              have B340 := own_Bk.ext E340 B10
              have Sf340 := Safe.ext E340 (own_Bk.ch B10) (Safe.new (Nat.le_of_eq g340.symm))
              have F340_form : Fld Z h340 nb340 "com/example/hebelwerk/hebelwerk/io/FixedForm" "form" "Ljava/lang/String;" .null := D340 (Or.inr (hw _ (List.mem_of_getElem? (i := 40) rfl))) (ty := (.object "java/lang/String")) (by decide)
              show own_Go p e below _ T340 (mkF m 258 #[.val (.int le), .val (.int ff), .val (.int tt), .val (.int mo), .val (.int (3 : Int32)), .val (.int (3 : Int32)), .val (.int r2), .val (.int r3), .val (.int r4), .val (.int r5), .val (.int r6), .val (.int r7), .val (.ref x8), .val (.ref x10), .val (.int (1 : Int32)), .unset] [(.ref nb340)])
              refine own_st (fun t_ k_ => XS.dup X340.here hx rfl (hb hby at_258) rfl rfl k_) ?_
              show own_Go p e below _ T340 (mkF m 259 #[.val (.int le), .val (.int ff), .val (.int tt), .val (.int mo), .val (.int (3 : Int32)), .val (.int (3 : Int32)), .val (.int r2), .val (.int r3), .val (.int r4), .val (.int r5), .val (.int r6), .val (.int r7), .val (.ref x8), .val (.ref x10), .val (.int (1 : Int32)), .unset] [(.ref nb340), (.ref nb340)])
              refine own_st (fun t_ k_ => XS.aload X340.here hx rfl (hb hby at_259) rfl rfl k_) ?_
              show own_Go p e below _ T340 (mkF m 261 #[.val (.int le), .val (.int ff), .val (.int tt), .val (.int mo), .val (.int (3 : Int32)), .val (.int (3 : Int32)), .val (.int r2), .val (.int r3), .val (.int r4), .val (.int r5), .val (.int r6), .val (.int r7), .val (.ref x8), .val (.ref x10), .val (.int (1 : Int32)), .unset] [(.ref x8), (.ref nb340), (.ref nb340)])
              refine own_callN X340 hx (y := (⟨"com/example/hebelwerk/hebelwerk/io/FixedForm", "<init>", "(Ljava/lang/String;)V"⟩ : MethodName)) rfl hown (mvT hZ (hw _ (List.mem_of_getElem? (i := 35) rfl))) (mvT hZ (hw _ (List.mem_of_getElem? (i := 36) rfl))) (mvT hZ (hw _ (List.mem_of_getElem? (i := 37) rfl))) (by decide) (backOf (W := 1) (rmCI l Z a0 hw [] nb340 x8 h340 n0 (Nat.le_trans Z0 K340.1) g_nb340 A340 F340_form) hZ (hw _ (List.mem_of_getElem? (i := 37) rfl)) (hw _ (List.mem_of_getElem? (i := 34) rfl)) (by decide) (by decide)) (a := nb340) (g := (mkF m 261 #[.val (.int le), .val (.int ff), .val (.int tt), .val (.int mo), .val (.int (3 : Int32)), .val (.int (3 : Int32)), .val (.int r2), .val (.int r3), .val (.int r4), .val (.int r5), .val (.int r6), .val (.int r7), .val (.ref x8), .val (.ref x10), .val (.int (1 : Int32)), .unset] [(.ref x8), (.ref nb340), (.ref nb340)])) rfl (by rw [hml]; rfl) (argsL := [(.ref x8)]) (rest := [(.ref nb340)]) (lenOf pd_8 rfl) rfl (by show 2 * 0 + _ ≤ _; exact Nat.le_of_eq rfl) (hb hby at_261) rfl e340 (by decide) (by decide) ?_
              rintro v341 T341 L341 X341 ⟨rfl, Nq341, Kq341, Eq341, Fk341⟩
              have N341 := Fr.app N307 Nq341
              have K341 : Keep h0 T341.heap [] := K340.trans Kq341 (allS (Or.inr sz_nb340) all0)
              have B341 := own_Bk.keep Kq341 (sfS Sf340 sf0) B340
              show own_Go p e below _ T341 (mkF m 264 #[.val (.int le), .val (.int ff), .val (.int tt), .val (.int mo), .val (.int (3 : Int32)), .val (.int (3 : Int32)), .val (.int r2), .val (.int r3), .val (.int r4), .val (.int r5), .val (.int r6), .val (.int r7), .val (.ref x8), .val (.ref x10), .val (.int (1 : Int32)), .unset] [(.ref nb340)])
              refine own_st (fun t_ k_ => XS.aload X341.here hx rfl (hb hby at_264) rfl rfl k_) ?_
              show own_Go p e below _ T341 (mkF m 266 #[.val (.int le), .val (.int ff), .val (.int tt), .val (.int mo), .val (.int (3 : Int32)), .val (.int (3 : Int32)), .val (.int r2), .val (.int r3), .val (.int r4), .val (.int r5), .val (.int r6), .val (.int r7), .val (.ref x8), .val (.ref x10), .val (.int (1 : Int32)), .unset] [(.ref x10), (.ref nb340)])
              have f342 := (f9.keep Kq10 all0)
              have f343 := (f342.ext E340)
              have f344 := (f343.keep Kq341 (allS g_nb340 all0))
              have f345 := (Ex8.keep Kq10)
              have f346 := (Exa.ext E340 f345)
              have f347 := (f346.keep Kq341)
              have f348 := (Cq8.keep Kq10 nin0)
              have f349 := (Fld.ext E340 f348)
              have ne350 : x8 ≠ nb340 := (Nat.ne_of_lt (Nat.lt_of_lt_of_le f345.lt (Nat.le_of_eq g340.symm)))
              have f351 := (f349.keep Kq341 (ninS ne350 nin0))
              have f352 := (Vq8.keep Kq10 nin0)
              have f353 := (Fld.ext E340 f352)
              have f354 := (f353.keep Kq341 (ninS ne350 nin0))
              have f355 := (Aq8.keep Kq10 nin0)
              have f356 := (f355.ext E340)
              have ne357 : t8 ≠ nb340 := (Nat.ne_of_lt (Nat.lt_of_lt_of_le f355.lt (Nat.le_of_eq g340.symm)))
              have f358 := (f356.keep Kq341 (ninS ne357 nin0))
              have f359 := (Exa.ext E340 Ex10)
              have f360 := (f359.keep Kq341)
              have f361 := (Fld.ext E340 Cq10)
              have ne362 : x10 ≠ nb340 := (Nat.ne_of_lt (Nat.lt_of_lt_of_le Ex10.lt (Nat.le_of_eq g340.symm)))
              have f363 := (f361.keep Kq341 (ninS ne362 nin0))
              have f364 := (Fld.ext E340 Vq10)
              have f365 := (f364.keep Kq341 (ninS ne362 nin0))
              have f366 := (Aq10.ext E340)
              have ne367 : t10 ≠ nb340 := (Nat.ne_of_lt (Nat.lt_of_lt_of_le Aq10.lt (Nat.le_of_eq g340.symm)))
              have f368 := (f366.keep Kq341 (ninS ne367 nin0))
              obtain ⟨cq370, kq370, q370a, q370b, q370c⟩ := isOf hZ rfl Eq341
              refine own_callV X341 hx (y := (⟨"com/example/hebelwerk/hebelwerk/io/FixedForm", "matches", "(Ljava/lang/String;)Z"⟩ : MethodName)) (z := (⟨"com/example/hebelwerk/hebelwerk/io/FixedForm", "matches", "(Ljava/lang/String;)Z"⟩ : MethodName)) hown (mvT hZ (hw _ (List.mem_of_getElem? (i := 41) rfl))) (mvT hZ (hw _ (List.mem_of_getElem? (i := 42) rfl))) (notFace_of_selects (args := #[]) (mvT hZ (hw _ (List.mem_of_getElem? (i := 44) rfl)))) (mvT hZ (hw _ (List.mem_of_getElem? (i := 44) rfl))) (mvT hZ (hw _ (List.mem_of_getElem? (i := 43) rfl))) (by decide) (backOf (W := 0) (rmM3 l Z a0 hw [] nb340 x8 t8 x10 t10 kb8 kb10 (own_str (3 : Int32) [r2, r3, r4]) (own_str (3 : Int32) [r5, r6, r7]) G fm r2 r3 r4 r5 r6 r7 (1 : Int32) T341.heap n0 (Nat.le_trans Z0 K341.1) SC hCS f344 SF rG Eq341 Fk341 f347 f351 f354 f358 hp8 (own_strl (3 : Int32) r2 r3 r4) f360 f363 f365 f368 hp10 (own_strl (3 : Int32) r5 r6 r7) rfl rfl (by rw [if_neg hz242, if_neg hz275, if_neg hz308])) hZ (hw _ (List.mem_of_getElem? (i := 45) rfl)) (hw _ (List.mem_of_getElem? (i := 34) rfl)) (by decide) (by decide)) q370a q370c (g := (mkF m 266 #[.val (.int le), .val (.int ff), .val (.int tt), .val (.int mo), .val (.int (3 : Int32)), .val (.int (3 : Int32)), .val (.int r2), .val (.int r3), .val (.int r4), .val (.int r5), .val (.int r6), .val (.int r7), .val (.ref x8), .val (.ref x10), .val (.int (1 : Int32)), .unset] [(.ref x10), (.ref nb340)])) rfl (by rw [hml]; rfl) (argsL := [(.ref x10)]) (rest := []) (lenOf pd_9 rfl) rfl (by show 2 * 0 + _ ≤ _; exact Nat.le_of_eq rfl) (hb hby at_266) rfl rfl (by decide) (by decide) ?_
              rintro v369 T369 L369 X369 ⟨rfl, Nq369, hh369⟩
              have N369 := Fr.app N341 Nq369
              show own_Go p e below _ T369 (mkF m 269 #[.val (.int le), .val (.int ff), .val (.int tt), .val (.int mo), .val (.int (3 : Int32)), .val (.int (3 : Int32)), .val (.int r2), .val (.int r3), .val (.int r4), .val (.int r5), .val (.int r6), .val (.int r7), .val (.ref x8), .val (.ref x10), .val (.int (1 : Int32)), .unset] [(.int (1 : Int32))])
              refine own_st (fun t_ k_ => XS.istore X369.here hx rfl (hb hby at_269) rfl (l' := #[.val (.int le), .val (.int ff), .val (.int tt), .val (.int mo), .val (.int (3 : Int32)), .val (.int (3 : Int32)), .val (.int r2), .val (.int r3), .val (.int r4), .val (.int r5), .val (.int r6), .val (.int r7), .val (.ref x8), .val (.ref x10), .val (.int (1 : Int32)), .val (.int (1 : Int32))]) rfl k_) ?_
              show own_Go p e below _ T369 (mkF m 271 #[.val (.int le), .val (.int ff), .val (.int tt), .val (.int mo), .val (.int (3 : Int32)), .val (.int (3 : Int32)), .val (.int r2), .val (.int r3), .val (.int r4), .val (.int r5), .val (.int r6), .val (.int r7), .val (.ref x8), .val (.ref x10), .val (.int (1 : Int32)), .val (.int (1 : Int32))] [])
              refine own_st (fun t_ k_ => XS.iload X369.here hx rfl (hb hby at_271) rfl k_) ?_
              show own_Go p e below _ T369 (mkF m 273 #[.val (.int le), .val (.int ff), .val (.int tt), .val (.int mo), .val (.int (3 : Int32)), .val (.int (3 : Int32)), .val (.int r2), .val (.int r3), .val (.int r4), .val (.int r5), .val (.int r6), .val (.int r7), .val (.ref x8), .val (.ref x10), .val (.int (1 : Int32)), .val (.int (1 : Int32))] [(.int (1 : Int32))])
              refine own_st (fun t_ k_ => XS.iload X369.here hx rfl (hb hby at_273) rfl k_) ?_
              show own_Go p e below _ T369 (mkF m 275 #[.val (.int le), .val (.int ff), .val (.int tt), .val (.int mo), .val (.int (3 : Int32)), .val (.int (3 : Int32)), .val (.int r2), .val (.int r3), .val (.int r4), .val (.int r5), .val (.int r6), .val (.int r7), .val (.ref x8), .val (.ref x10), .val (.int (1 : Int32)), .val (.int (1 : Int32))] [(.int (1 : Int32)), (.int (1 : Int32))])
              refine own_st (fun t_ k_ => XS.icmpNo X369.here hx rfl (hb hby at_275) rfl (by decide) k_) ?_
              show own_Go p e below _ T369 (mkF m 278 #[.val (.int le), .val (.int ff), .val (.int tt), .val (.int mo), .val (.int (3 : Int32)), .val (.int (3 : Int32)), .val (.int r2), .val (.int r3), .val (.int r4), .val (.int r5), .val (.int r6), .val (.int r7), .val (.ref x8), .val (.ref x10), .val (.int (1 : Int32)), .val (.int (1 : Int32))] [])
              refine own_st (fun t_ k_ => XS.iconst X369.here hx rfl (hb hby at_278) k_) ?_
              show own_Go p e below _ T369 (mkF m 279 #[.val (.int le), .val (.int ff), .val (.int tt), .val (.int mo), .val (.int (3 : Int32)), .val (.int (3 : Int32)), .val (.int r2), .val (.int r3), .val (.int r4), .val (.int r5), .val (.int r6), .val (.int r7), .val (.ref x8), .val (.ref x10), .val (.int (1 : Int32)), .val (.int (1 : Int32))] [(.int (1 : Int32))])
              refine own_st (fun t_ k_ => XS.goto X369.here hx rfl (pc0 := 279) (pc' := 283) rfl (hb hby at_279) (by decide) (by decide) k_) ?_
              show own_Go p e below _ T369 (mkF m 283 #[.val (.int le), .val (.int ff), .val (.int tt), .val (.int mo), .val (.int (3 : Int32)), .val (.int (3 : Int32)), .val (.int r2), .val (.int r3), .val (.int r4), .val (.int r5), .val (.int r6), .val (.int r7), .val (.ref x8), .val (.ref x10), .val (.int (1 : Int32)), .val (.int (1 : Int32))] [(.int (1 : Int32))])
              refine own_retNS X369 hx hlk hZ hEL hh369 hh B341 (t := .boolean) Bd.returns (by simp) (hb hby at_283) ?_ (by decide) (by decide)
              show Q0 n0 _ T369.heap _
              rw [hh369]
              exact ⟨rfl, N369⟩
    · refine own_st (fun t_ k_ => XS.icmpYes X10.here hx rfl (pc0 := 162) (pc' := 169) rfl (hb hby at_162) rfl (feq hlt).2 (by decide) (by decide) k_) ?_
      show own_Go p e below _ T10 (mkF m 169 #[.val (.int le), .val (.int ff), .val (.int tt), .val (.int mo), .val (.int fl), .val (.int tl), .val (.int r2), .val (.int r3), .val (.int r4), .val (.int r5), .val (.int r6), .val (.int r7), .val (.ref x8), .val (.ref x10), .unset, .unset] [])
      refine own_st (fun t_ k_ => XS.iconst X10.here hx rfl (hb hby at_169) k_) ?_
      show own_Go p e below _ T10 (mkF m 170 #[.val (.int le), .val (.int ff), .val (.int tt), .val (.int mo), .val (.int fl), .val (.int tl), .val (.int r2), .val (.int r3), .val (.int r4), .val (.int r5), .val (.int r6), .val (.int r7), .val (.ref x8), .val (.ref x10), .unset, .unset] [(.int (0 : Int32))])
      refine own_st (fun t_ k_ => XS.istore X10.here hx rfl (hb hby at_170) rfl (l' := #[.val (.int le), .val (.int ff), .val (.int tt), .val (.int mo), .val (.int fl), .val (.int tl), .val (.int r2), .val (.int r3), .val (.int r4), .val (.int r5), .val (.int r6), .val (.int r7), .val (.ref x8), .val (.ref x10), .val (.int (0 : Int32)), .unset]) rfl k_) ?_
      show own_Go p e below _ T10 (mkF m 172 #[.val (.int le), .val (.int ff), .val (.int tt), .val (.int mo), .val (.int fl), .val (.int tl), .val (.int r2), .val (.int r3), .val (.int r4), .val (.int r5), .val (.int r6), .val (.int r7), .val (.ref x8), .val (.ref x10), .val (.int (0 : Int32)), .unset] [])
      refine own_st (fun t_ k_ => XS.iload X10.here hx rfl (hb hby at_172) rfl k_) ?_
      show own_Go p e below _ T10 (mkF m 174 #[.val (.int le), .val (.int ff), .val (.int tt), .val (.int mo), .val (.int fl), .val (.int tl), .val (.int r2), .val (.int r3), .val (.int r4), .val (.int r5), .val (.int r6), .val (.int r7), .val (.ref x8), .val (.ref x10), .val (.int (0 : Int32)), .unset] [(.int fl)])
      refine own_join (α := Int32) (F := fun ex => ex = (0 : Int32)) (T' := T10) (g' := fun ex => (mkF m 255 #[.val (.int le), .val (.int ff), .val (.int tt), .val (.int mo), .val (.int fl), .val (.int tl), .val (.int r2), .val (.int r3), .val (.int r4), .val (.int r5), .val (.int r6), .val (.int r7), .val (.ref x8), .val (.ref x10), .val (.int ex), .unset] [])) (fun ex h_ex => ?_) (fun J_ex => ?_)
      · show own_Go p e below _ T10 (mkF m 255 #[.val (.int le), .val (.int ff), .val (.int tt), .val (.int mo), .val (.int fl), .val (.int tl), .val (.int r2), .val (.int r3), .val (.int r4), .val (.int r5), .val (.int r6), .val (.int r7), .val (.ref x8), .val (.ref x10), .val (.int ex), .unset] [])
        subst h_ex
        show own_Go p e below _ T10 (mkF m 255 #[.val (.int le), .val (.int ff), .val (.int tt), .val (.int mo), .val (.int fl), .val (.int tl), .val (.int r2), .val (.int r3), .val (.int r4), .val (.int r5), .val (.int r6), .val (.int r7), .val (.ref x8), .val (.ref x10), .val (.int (0 : Int32)), .unset] [])
        obtain ⟨T18, h18, X18, e18, E18, A18, D18, cel18, st18⟩ := newO X10 hx hZ hown (hw _ (List.mem_of_getElem? (i := 32) rfl)) (hw _ (List.mem_of_getElem? (i := 33) rfl)) (hw _ (List.mem_of_getElem? (i := 34) rfl)) rfl (g := (mkF m 255 #[.val (.int le), .val (.int ff), .val (.int tt), .val (.int mo), .val (.int fl), .val (.int tl), .val (.int r2), .val (.int r3), .val (.int r4), .val (.int r5), .val (.int r6), .val (.int r7), .val (.ref x8), .val (.ref x10), .val (.int (0 : Int32)), .unset] [])) rfl (hb hby at_255) (by decide) (by decide)
        obtain ⟨nb18, g18⟩ : ∃ z, z = T10.heap.size := ⟨_, rfl⟩
        rw [← g18] at A18 D18 cel18 st18
        refine own_st st18 ?_
        have g_nb18 : n0 ≤ nb18 := Nat.le_trans (Nat.le_trans Z0 K10.1) (Nat.le_of_eq g18.symm)
        have K18 : Keep h0 h18 [] := K10.ext E18
        have sz_nb18 : h0.size ≤ nb18 := Nat.le_trans K10.1 (Nat.le_of_eq g18.symm)
        have B18 := own_Bk.ext E18 B10
        have Sf18 := Safe.ext E18 (own_Bk.ch B10) (Safe.new (Nat.le_of_eq g18.symm))
        have F18_form : Fld Z h18 nb18 "com/example/hebelwerk/hebelwerk/io/FixedForm" "form" "Ljava/lang/String;" .null := D18 (Or.inr (hw _ (List.mem_of_getElem? (i := 40) rfl))) (ty := (.object "java/lang/String")) (by decide)
        show own_Go p e below _ T18 (mkF m 258 #[.val (.int le), .val (.int ff), .val (.int tt), .val (.int mo), .val (.int fl), .val (.int tl), .val (.int r2), .val (.int r3), .val (.int r4), .val (.int r5), .val (.int r6), .val (.int r7), .val (.ref x8), .val (.ref x10), .val (.int (0 : Int32)), .unset] [(.ref nb18)])
        refine own_st (fun t_ k_ => XS.dup X18.here hx rfl (hb hby at_258) rfl rfl k_) ?_
        show own_Go p e below _ T18 (mkF m 259 #[.val (.int le), .val (.int ff), .val (.int tt), .val (.int mo), .val (.int fl), .val (.int tl), .val (.int r2), .val (.int r3), .val (.int r4), .val (.int r5), .val (.int r6), .val (.int r7), .val (.ref x8), .val (.ref x10), .val (.int (0 : Int32)), .unset] [(.ref nb18), (.ref nb18)])
        refine own_st (fun t_ k_ => XS.aload X18.here hx rfl (hb hby at_259) rfl rfl k_) ?_
        show own_Go p e below _ T18 (mkF m 261 #[.val (.int le), .val (.int ff), .val (.int tt), .val (.int mo), .val (.int fl), .val (.int tl), .val (.int r2), .val (.int r3), .val (.int r4), .val (.int r5), .val (.int r6), .val (.int r7), .val (.ref x8), .val (.ref x10), .val (.int (0 : Int32)), .unset] [(.ref x8), (.ref nb18), (.ref nb18)])
        refine own_callN X18 hx (y := (⟨"com/example/hebelwerk/hebelwerk/io/FixedForm", "<init>", "(Ljava/lang/String;)V"⟩ : MethodName)) rfl hown (mvT hZ (hw _ (List.mem_of_getElem? (i := 35) rfl))) (mvT hZ (hw _ (List.mem_of_getElem? (i := 36) rfl))) (mvT hZ (hw _ (List.mem_of_getElem? (i := 37) rfl))) (by decide) (backOf (W := 1) (rmCI l Z a0 hw [] nb18 x8 h18 n0 (Nat.le_trans Z0 K18.1) g_nb18 A18 F18_form) hZ (hw _ (List.mem_of_getElem? (i := 37) rfl)) (hw _ (List.mem_of_getElem? (i := 34) rfl)) (by decide) (by decide)) (a := nb18) (g := (mkF m 261 #[.val (.int le), .val (.int ff), .val (.int tt), .val (.int mo), .val (.int fl), .val (.int tl), .val (.int r2), .val (.int r3), .val (.int r4), .val (.int r5), .val (.int r6), .val (.int r7), .val (.ref x8), .val (.ref x10), .val (.int (0 : Int32)), .unset] [(.ref x8), (.ref nb18), (.ref nb18)])) rfl (by rw [hml]; rfl) (argsL := [(.ref x8)]) (rest := [(.ref nb18)]) (lenOf pd_8 rfl) rfl (by show 2 * 0 + _ ≤ _; exact Nat.le_of_eq rfl) (hb hby at_261) rfl e18 (by decide) (by decide) ?_
        rintro v19 T19 L19 X19 ⟨rfl, Nq19, Kq19, Eq19, Fk19⟩
        have N19 := Fr.app N10 Nq19
        have K19 : Keep h0 T19.heap [] := K18.trans Kq19 (allS (Or.inr sz_nb18) all0)
        have B19 := own_Bk.keep Kq19 (sfS Sf18 sf0) B18
        show own_Go p e below _ T19 (mkF m 264 #[.val (.int le), .val (.int ff), .val (.int tt), .val (.int mo), .val (.int fl), .val (.int tl), .val (.int r2), .val (.int r3), .val (.int r4), .val (.int r5), .val (.int r6), .val (.int r7), .val (.ref x8), .val (.ref x10), .val (.int (0 : Int32)), .unset] [(.ref nb18)])
        refine own_st (fun t_ k_ => XS.aload X19.here hx rfl (hb hby at_264) rfl rfl k_) ?_
        show own_Go p e below _ T19 (mkF m 266 #[.val (.int le), .val (.int ff), .val (.int tt), .val (.int mo), .val (.int fl), .val (.int tl), .val (.int r2), .val (.int r3), .val (.int r4), .val (.int r5), .val (.int r6), .val (.int r7), .val (.ref x8), .val (.ref x10), .val (.int (0 : Int32)), .unset] [(.ref x10), (.ref nb18)])
        have f20 := (f9.keep Kq10 all0)
        have f21 := (f20.ext E18)
        have f22 := (f21.keep Kq19 (allS g_nb18 all0))
        have f23 := (Ex8.keep Kq10)
        have f24 := (Exa.ext E18 f23)
        have f25 := (f24.keep Kq19)
        have f26 := (Cq8.keep Kq10 nin0)
        have f27 := (Fld.ext E18 f26)
        have ne28 : x8 ≠ nb18 := (Nat.ne_of_lt (Nat.lt_of_lt_of_le f23.lt (Nat.le_of_eq g18.symm)))
        have f29 := (f27.keep Kq19 (ninS ne28 nin0))
        have f30 := (Vq8.keep Kq10 nin0)
        have f31 := (Fld.ext E18 f30)
        have f32 := (f31.keep Kq19 (ninS ne28 nin0))
        have f33 := (Aq8.keep Kq10 nin0)
        have f34 := (f33.ext E18)
        have ne35 : t8 ≠ nb18 := (Nat.ne_of_lt (Nat.lt_of_lt_of_le f33.lt (Nat.le_of_eq g18.symm)))
        have f36 := (f34.keep Kq19 (ninS ne35 nin0))
        have f37 := (Exa.ext E18 Ex10)
        have f38 := (f37.keep Kq19)
        have f39 := (Fld.ext E18 Cq10)
        have ne40 : x10 ≠ nb18 := (Nat.ne_of_lt (Nat.lt_of_lt_of_le Ex10.lt (Nat.le_of_eq g18.symm)))
        have f41 := (f39.keep Kq19 (ninS ne40 nin0))
        have f42 := (Fld.ext E18 Vq10)
        have f43 := (f42.keep Kq19 (ninS ne40 nin0))
        have f44 := (Aq10.ext E18)
        have ne45 : t10 ≠ nb18 := (Nat.ne_of_lt (Nat.lt_of_lt_of_le Aq10.lt (Nat.le_of_eq g18.symm)))
        have f46 := (f44.keep Kq19 (ninS ne45 nin0))
        obtain ⟨cq48, kq48, q48a, q48b, q48c⟩ := isOf hZ rfl Eq19
        refine own_callV X19 hx (y := (⟨"com/example/hebelwerk/hebelwerk/io/FixedForm", "matches", "(Ljava/lang/String;)Z"⟩ : MethodName)) (z := (⟨"com/example/hebelwerk/hebelwerk/io/FixedForm", "matches", "(Ljava/lang/String;)Z"⟩ : MethodName)) hown (mvT hZ (hw _ (List.mem_of_getElem? (i := 41) rfl))) (mvT hZ (hw _ (List.mem_of_getElem? (i := 42) rfl))) (notFace_of_selects (args := #[]) (mvT hZ (hw _ (List.mem_of_getElem? (i := 44) rfl)))) (mvT hZ (hw _ (List.mem_of_getElem? (i := 44) rfl))) (mvT hZ (hw _ (List.mem_of_getElem? (i := 43) rfl))) (by decide) (backOf (W := 0) (rmMX l Z a0 hw [] nb18 x8 t8 x10 t10 kb8 kb10 (own_str fl [r2, r3, r4]) (own_str tl [r5, r6, r7]) G fm fl tl T19.heap n0 (Nat.le_trans Z0 K19.1) SC hCS f22 SF rG Eq19 Fk19 f25 f29 f32 f36 hp8 (own_strl fl r2 r3 r4) f38 f41 f43 f46 hp10 (own_strl tl r5 r6 r7) (own_strlen _ _ _ _ d_fl) (own_strlen _ _ _ _ d_tl) (fun q => hlt q.symm)) hZ (hw _ (List.mem_of_getElem? (i := 45) rfl)) (hw _ (List.mem_of_getElem? (i := 34) rfl)) (by decide) (by decide)) q48a q48c (g := (mkF m 266 #[.val (.int le), .val (.int ff), .val (.int tt), .val (.int mo), .val (.int fl), .val (.int tl), .val (.int r2), .val (.int r3), .val (.int r4), .val (.int r5), .val (.int r6), .val (.int r7), .val (.ref x8), .val (.ref x10), .val (.int (0 : Int32)), .unset] [(.ref x10), (.ref nb18)])) rfl (by rw [hml]; rfl) (argsL := [(.ref x10)]) (rest := []) (lenOf pd_9 rfl) rfl (by show 2 * 0 + _ ≤ _; exact Nat.le_of_eq rfl) (hb hby at_266) rfl rfl (by decide) (by decide) ?_
        rintro v47 T47 L47 X47 ⟨rfl, Nq47, hh47⟩
        have N47 := Fr.app N19 Nq47
        show own_Go p e below _ T47 (mkF m 269 #[.val (.int le), .val (.int ff), .val (.int tt), .val (.int mo), .val (.int fl), .val (.int tl), .val (.int r2), .val (.int r3), .val (.int r4), .val (.int r5), .val (.int r6), .val (.int r7), .val (.ref x8), .val (.ref x10), .val (.int (0 : Int32)), .unset] [(.int (0 : Int32))])
        refine own_st (fun t_ k_ => XS.istore X47.here hx rfl (hb hby at_269) rfl (l' := #[.val (.int le), .val (.int ff), .val (.int tt), .val (.int mo), .val (.int fl), .val (.int tl), .val (.int r2), .val (.int r3), .val (.int r4), .val (.int r5), .val (.int r6), .val (.int r7), .val (.ref x8), .val (.ref x10), .val (.int (0 : Int32)), .val (.int (0 : Int32))]) rfl k_) ?_
        show own_Go p e below _ T47 (mkF m 271 #[.val (.int le), .val (.int ff), .val (.int tt), .val (.int mo), .val (.int fl), .val (.int tl), .val (.int r2), .val (.int r3), .val (.int r4), .val (.int r5), .val (.int r6), .val (.int r7), .val (.ref x8), .val (.ref x10), .val (.int (0 : Int32)), .val (.int (0 : Int32))] [])
        refine own_st (fun t_ k_ => XS.iload X47.here hx rfl (hb hby at_271) rfl k_) ?_
        show own_Go p e below _ T47 (mkF m 273 #[.val (.int le), .val (.int ff), .val (.int tt), .val (.int mo), .val (.int fl), .val (.int tl), .val (.int r2), .val (.int r3), .val (.int r4), .val (.int r5), .val (.int r6), .val (.int r7), .val (.ref x8), .val (.ref x10), .val (.int (0 : Int32)), .val (.int (0 : Int32))] [(.int (0 : Int32))])
        refine own_st (fun t_ k_ => XS.iload X47.here hx rfl (hb hby at_273) rfl k_) ?_
        show own_Go p e below _ T47 (mkF m 275 #[.val (.int le), .val (.int ff), .val (.int tt), .val (.int mo), .val (.int fl), .val (.int tl), .val (.int r2), .val (.int r3), .val (.int r4), .val (.int r5), .val (.int r6), .val (.int r7), .val (.ref x8), .val (.ref x10), .val (.int (0 : Int32)), .val (.int (0 : Int32))] [(.int (0 : Int32)), (.int (0 : Int32))])
        refine own_st (fun t_ k_ => XS.icmpNo X47.here hx rfl (hb hby at_275) rfl (by decide) k_) ?_
        show own_Go p e below _ T47 (mkF m 278 #[.val (.int le), .val (.int ff), .val (.int tt), .val (.int mo), .val (.int fl), .val (.int tl), .val (.int r2), .val (.int r3), .val (.int r4), .val (.int r5), .val (.int r6), .val (.int r7), .val (.ref x8), .val (.ref x10), .val (.int (0 : Int32)), .val (.int (0 : Int32))] [])
        refine own_st (fun t_ k_ => XS.iconst X47.here hx rfl (hb hby at_278) k_) ?_
        show own_Go p e below _ T47 (mkF m 279 #[.val (.int le), .val (.int ff), .val (.int tt), .val (.int mo), .val (.int fl), .val (.int tl), .val (.int r2), .val (.int r3), .val (.int r4), .val (.int r5), .val (.int r6), .val (.int r7), .val (.ref x8), .val (.ref x10), .val (.int (0 : Int32)), .val (.int (0 : Int32))] [(.int (1 : Int32))])
        refine own_st (fun t_ k_ => XS.goto X47.here hx rfl (pc0 := 279) (pc' := 283) rfl (hb hby at_279) (by decide) (by decide) k_) ?_
        show own_Go p e below _ T47 (mkF m 283 #[.val (.int le), .val (.int ff), .val (.int tt), .val (.int mo), .val (.int fl), .val (.int tl), .val (.int r2), .val (.int r3), .val (.int r4), .val (.int r5), .val (.int r6), .val (.int r7), .val (.ref x8), .val (.ref x10), .val (.int (0 : Int32)), .val (.int (0 : Int32))] [(.int (1 : Int32))])
        refine own_retNS X47 hx hlk hZ hEL hh47 hh B19 (t := .boolean) Bd.returns (by simp) (hb hby at_283) ?_ (by decide) (by decide)
        show Q0 n0 _ T47.heap _
        rw [hh47]
        exact ⟨rfl, N47⟩
      · show own_Go p e below _ T10 (mkF m 174 #[.val (.int le), .val (.int ff), .val (.int tt), .val (.int mo), .val (.int fl), .val (.int tl), .val (.int r2), .val (.int r3), .val (.int r4), .val (.int r5), .val (.int r6), .val (.int r7), .val (.ref x8), .val (.ref x10), .val (.int (0 : Int32)), .unset] [(.int fl)])
        by_cases hc174_11 : (0 : Int32) < fl
        · refine own_st (fun t_ k_ => XS.ifNo X10.here hx rfl (hb hby at_174) rfl ((if0 _ _).trans (tlt hc174_11).2.2.2) k_) ?_
          show own_Go p e below _ T10 (mkF m 177 #[.val (.int le), .val (.int ff), .val (.int tt), .val (.int mo), .val (.int fl), .val (.int tl), .val (.int r2), .val (.int r3), .val (.int r4), .val (.int r5), .val (.int r6), .val (.int r7), .val (.ref x8), .val (.ref x10), .val (.int (0 : Int32)), .unset] [])
          refine own_st (fun t_ k_ => XS.iload X10.here hx rfl (hb hby at_177) rfl k_) ?_
          show own_Go p e below _ T10 (mkF m 179 #[.val (.int le), .val (.int ff), .val (.int tt), .val (.int mo), .val (.int fl), .val (.int tl), .val (.int r2), .val (.int r3), .val (.int r4), .val (.int r5), .val (.int r6), .val (.int r7), .val (.ref x8), .val (.ref x10), .val (.int (0 : Int32)), .unset] [(.int (0 : Int32))])
          refine own_st (fun t_ k_ => XS.ifYes X10.here hx rfl (pc0 := 179) (pc' := 196) rfl (hb hby at_179) rfl (by decide) (by decide) (by decide) k_) ?_
          show own_Go p e below _ T10 (mkF m 196 #[.val (.int le), .val (.int ff), .val (.int tt), .val (.int mo), .val (.int fl), .val (.int tl), .val (.int r2), .val (.int r3), .val (.int r4), .val (.int r5), .val (.int r6), .val (.int r7), .val (.ref x8), .val (.ref x10), .val (.int (0 : Int32)), .unset] [])
          refine own_st (fun t_ k_ => XS.iconst X10.here hx rfl (hb hby at_196) k_) ?_
          show own_Go p e below _ T10 (mkF m 197 #[.val (.int le), .val (.int ff), .val (.int tt), .val (.int mo), .val (.int fl), .val (.int tl), .val (.int r2), .val (.int r3), .val (.int r4), .val (.int r5), .val (.int r6), .val (.int r7), .val (.ref x8), .val (.ref x10), .val (.int (0 : Int32)), .unset] [(.int (0 : Int32))])
          refine own_st (fun t_ k_ => XS.istore X10.here hx rfl (hb hby at_197) rfl (l' := #[.val (.int le), .val (.int ff), .val (.int tt), .val (.int mo), .val (.int fl), .val (.int tl), .val (.int r2), .val (.int r3), .val (.int r4), .val (.int r5), .val (.int r6), .val (.int r7), .val (.ref x8), .val (.ref x10), .val (.int (0 : Int32)), .unset]) rfl k_) ?_
          show own_Go p e below _ T10 (mkF m 199 #[.val (.int le), .val (.int ff), .val (.int tt), .val (.int mo), .val (.int fl), .val (.int tl), .val (.int r2), .val (.int r3), .val (.int r4), .val (.int r5), .val (.int r6), .val (.int r7), .val (.ref x8), .val (.ref x10), .val (.int (0 : Int32)), .unset] [])
          refine own_st (fun t_ k_ => XS.iload X10.here hx rfl (hb hby at_199) rfl k_) ?_
          show own_Go p e below _ T10 (mkF m 201 #[.val (.int le), .val (.int ff), .val (.int tt), .val (.int mo), .val (.int fl), .val (.int tl), .val (.int r2), .val (.int r3), .val (.int r4), .val (.int r5), .val (.int r6), .val (.int r7), .val (.ref x8), .val (.ref x10), .val (.int (0 : Int32)), .unset] [(.int fl)])
          refine own_st (fun t_ k_ => XS.iconst X10.here hx rfl (hb hby at_201) k_) ?_
          show own_Go p e below _ T10 (mkF m 202 #[.val (.int le), .val (.int ff), .val (.int tt), .val (.int mo), .val (.int fl), .val (.int tl), .val (.int r2), .val (.int r3), .val (.int r4), .val (.int r5), .val (.int r6), .val (.int r7), .val (.ref x8), .val (.ref x10), .val (.int (0 : Int32)), .unset] [(.int (1 : Int32)), (.int fl)])
          by_cases hc202_15 : (1 : Int32) < fl
          · refine own_st (fun t_ k_ => XS.icmpNo X10.here hx rfl (hb hby at_202) rfl (tlt hc202_15).2.2.2 k_) ?_
            show own_Go p e below _ T10 (mkF m 205 #[.val (.int le), .val (.int ff), .val (.int tt), .val (.int mo), .val (.int fl), .val (.int tl), .val (.int r2), .val (.int r3), .val (.int r4), .val (.int r5), .val (.int r6), .val (.int r7), .val (.ref x8), .val (.ref x10), .val (.int (0 : Int32)), .unset] [])
            refine own_st (fun t_ k_ => XS.iload X10.here hx rfl (hb hby at_205) rfl k_) ?_
            show own_Go p e below _ T10 (mkF m 207 #[.val (.int le), .val (.int ff), .val (.int tt), .val (.int mo), .val (.int fl), .val (.int tl), .val (.int r2), .val (.int r3), .val (.int r4), .val (.int r5), .val (.int r6), .val (.int r7), .val (.ref x8), .val (.ref x10), .val (.int (0 : Int32)), .unset] [(.int (0 : Int32))])
            refine own_st (fun t_ k_ => XS.ifYes X10.here hx rfl (pc0 := 207) (pc' := 224) rfl (hb hby at_207) rfl (by decide) (by decide) (by decide) k_) ?_
            show own_Go p e below _ T10 (mkF m 224 #[.val (.int le), .val (.int ff), .val (.int tt), .val (.int mo), .val (.int fl), .val (.int tl), .val (.int r2), .val (.int r3), .val (.int r4), .val (.int r5), .val (.int r6), .val (.int r7), .val (.ref x8), .val (.ref x10), .val (.int (0 : Int32)), .unset] [])
            refine own_st (fun t_ k_ => XS.iconst X10.here hx rfl (hb hby at_224) k_) ?_
            show own_Go p e below _ T10 (mkF m 225 #[.val (.int le), .val (.int ff), .val (.int tt), .val (.int mo), .val (.int fl), .val (.int tl), .val (.int r2), .val (.int r3), .val (.int r4), .val (.int r5), .val (.int r6), .val (.int r7), .val (.ref x8), .val (.ref x10), .val (.int (0 : Int32)), .unset] [(.int (0 : Int32))])
            refine own_st (fun t_ k_ => XS.istore X10.here hx rfl (hb hby at_225) rfl (l' := #[.val (.int le), .val (.int ff), .val (.int tt), .val (.int mo), .val (.int fl), .val (.int tl), .val (.int r2), .val (.int r3), .val (.int r4), .val (.int r5), .val (.int r6), .val (.int r7), .val (.ref x8), .val (.ref x10), .val (.int (0 : Int32)), .unset]) rfl k_) ?_
            show own_Go p e below _ T10 (mkF m 227 #[.val (.int le), .val (.int ff), .val (.int tt), .val (.int mo), .val (.int fl), .val (.int tl), .val (.int r2), .val (.int r3), .val (.int r4), .val (.int r5), .val (.int r6), .val (.int r7), .val (.ref x8), .val (.ref x10), .val (.int (0 : Int32)), .unset] [])
            refine own_st (fun t_ k_ => XS.iload X10.here hx rfl (hb hby at_227) rfl k_) ?_
            show own_Go p e below _ T10 (mkF m 229 #[.val (.int le), .val (.int ff), .val (.int tt), .val (.int mo), .val (.int fl), .val (.int tl), .val (.int r2), .val (.int r3), .val (.int r4), .val (.int r5), .val (.int r6), .val (.int r7), .val (.ref x8), .val (.ref x10), .val (.int (0 : Int32)), .unset] [(.int fl)])
            refine own_st (fun t_ k_ => XS.iconst X10.here hx rfl (hb hby at_229) k_) ?_
            show own_Go p e below _ T10 (mkF m 230 #[.val (.int le), .val (.int ff), .val (.int tt), .val (.int mo), .val (.int fl), .val (.int tl), .val (.int r2), .val (.int r3), .val (.int r4), .val (.int r5), .val (.int r6), .val (.int r7), .val (.ref x8), .val (.ref x10), .val (.int (0 : Int32)), .unset] [(.int (2 : Int32)), (.int fl)])
            by_cases hc230_17 : (2 : Int32) < fl
            · refine own_st (fun t_ k_ => XS.icmpNo X10.here hx rfl (hb hby at_230) rfl (tlt hc230_17).2.2.2 k_) ?_
              show own_Go p e below _ T10 (mkF m 233 #[.val (.int le), .val (.int ff), .val (.int tt), .val (.int mo), .val (.int fl), .val (.int tl), .val (.int r2), .val (.int r3), .val (.int r4), .val (.int r5), .val (.int r6), .val (.int r7), .val (.ref x8), .val (.ref x10), .val (.int (0 : Int32)), .unset] [])
              refine own_st (fun t_ k_ => XS.iload X10.here hx rfl (hb hby at_233) rfl k_) ?_
              show own_Go p e below _ T10 (mkF m 235 #[.val (.int le), .val (.int ff), .val (.int tt), .val (.int mo), .val (.int fl), .val (.int tl), .val (.int r2), .val (.int r3), .val (.int r4), .val (.int r5), .val (.int r6), .val (.int r7), .val (.ref x8), .val (.ref x10), .val (.int (0 : Int32)), .unset] [(.int (0 : Int32))])
              refine own_st (fun t_ k_ => XS.ifYes X10.here hx rfl (pc0 := 235) (pc' := 252) rfl (hb hby at_235) rfl (by decide) (by decide) (by decide) k_) ?_
              show own_Go p e below _ T10 (mkF m 252 #[.val (.int le), .val (.int ff), .val (.int tt), .val (.int mo), .val (.int fl), .val (.int tl), .val (.int r2), .val (.int r3), .val (.int r4), .val (.int r5), .val (.int r6), .val (.int r7), .val (.ref x8), .val (.ref x10), .val (.int (0 : Int32)), .unset] [])
              refine own_st (fun t_ k_ => XS.iconst X10.here hx rfl (hb hby at_252) k_) ?_
              show own_Go p e below _ T10 (mkF m 253 #[.val (.int le), .val (.int ff), .val (.int tt), .val (.int mo), .val (.int fl), .val (.int tl), .val (.int r2), .val (.int r3), .val (.int r4), .val (.int r5), .val (.int r6), .val (.int r7), .val (.ref x8), .val (.ref x10), .val (.int (0 : Int32)), .unset] [(.int (0 : Int32))])
              refine own_st (fun t_ k_ => XS.istore X10.here hx rfl (hb hby at_253) rfl (l' := #[.val (.int le), .val (.int ff), .val (.int tt), .val (.int mo), .val (.int fl), .val (.int tl), .val (.int r2), .val (.int r3), .val (.int r4), .val (.int r5), .val (.int r6), .val (.int r7), .val (.ref x8), .val (.ref x10), .val (.int (0 : Int32)), .unset]) rfl k_) ?_
              show own_Go p e below _ T10 (mkF m 255 #[.val (.int le), .val (.int ff), .val (.int tt), .val (.int mo), .val (.int fl), .val (.int tl), .val (.int r2), .val (.int r3), .val (.int r4), .val (.int r5), .val (.int r6), .val (.int r7), .val (.ref x8), .val (.ref x10), .val (.int (0 : Int32)), .unset] [])
              exact J_ex (0 : Int32) rfl
            · refine own_st (fun t_ k_ => XS.icmpYes X10.here hx rfl (pc0 := 230) (pc' := 255) rfl (hb hby at_230) rfl (flt hc230_17).2.2.2 (by decide) (by decide) k_) ?_
              show own_Go p e below _ T10 (mkF m 255 #[.val (.int le), .val (.int ff), .val (.int tt), .val (.int mo), .val (.int fl), .val (.int tl), .val (.int r2), .val (.int r3), .val (.int r4), .val (.int r5), .val (.int r6), .val (.int r7), .val (.ref x8), .val (.ref x10), .val (.int (0 : Int32)), .unset] [])
              exact J_ex (0 : Int32) rfl
          · refine own_st (fun t_ k_ => XS.icmpYes X10.here hx rfl (pc0 := 202) (pc' := 227) rfl (hb hby at_202) rfl (flt hc202_15).2.2.2 (by decide) (by decide) k_) ?_
            show own_Go p e below _ T10 (mkF m 227 #[.val (.int le), .val (.int ff), .val (.int tt), .val (.int mo), .val (.int fl), .val (.int tl), .val (.int r2), .val (.int r3), .val (.int r4), .val (.int r5), .val (.int r6), .val (.int r7), .val (.ref x8), .val (.ref x10), .val (.int (0 : Int32)), .unset] [])
            refine own_st (fun t_ k_ => XS.iload X10.here hx rfl (hb hby at_227) rfl k_) ?_
            show own_Go p e below _ T10 (mkF m 229 #[.val (.int le), .val (.int ff), .val (.int tt), .val (.int mo), .val (.int fl), .val (.int tl), .val (.int r2), .val (.int r3), .val (.int r4), .val (.int r5), .val (.int r6), .val (.int r7), .val (.ref x8), .val (.ref x10), .val (.int (0 : Int32)), .unset] [(.int fl)])
            refine own_st (fun t_ k_ => XS.iconst X10.here hx rfl (hb hby at_229) k_) ?_
            show own_Go p e below _ T10 (mkF m 230 #[.val (.int le), .val (.int ff), .val (.int tt), .val (.int mo), .val (.int fl), .val (.int tl), .val (.int r2), .val (.int r3), .val (.int r4), .val (.int r5), .val (.int r6), .val (.int r7), .val (.ref x8), .val (.ref x10), .val (.int (0 : Int32)), .unset] [(.int (2 : Int32)), (.int fl)])
            by_cases hc230_16 : (2 : Int32) < fl
            · refine own_st (fun t_ k_ => XS.icmpNo X10.here hx rfl (hb hby at_230) rfl (tlt hc230_16).2.2.2 k_) ?_
              show own_Go p e below _ T10 (mkF m 233 #[.val (.int le), .val (.int ff), .val (.int tt), .val (.int mo), .val (.int fl), .val (.int tl), .val (.int r2), .val (.int r3), .val (.int r4), .val (.int r5), .val (.int r6), .val (.int r7), .val (.ref x8), .val (.ref x10), .val (.int (0 : Int32)), .unset] [])
              refine own_st (fun t_ k_ => XS.iload X10.here hx rfl (hb hby at_233) rfl k_) ?_
              show own_Go p e below _ T10 (mkF m 235 #[.val (.int le), .val (.int ff), .val (.int tt), .val (.int mo), .val (.int fl), .val (.int tl), .val (.int r2), .val (.int r3), .val (.int r4), .val (.int r5), .val (.int r6), .val (.int r7), .val (.ref x8), .val (.ref x10), .val (.int (0 : Int32)), .unset] [(.int (0 : Int32))])
              refine own_st (fun t_ k_ => XS.ifYes X10.here hx rfl (pc0 := 235) (pc' := 252) rfl (hb hby at_235) rfl (by decide) (by decide) (by decide) k_) ?_
              show own_Go p e below _ T10 (mkF m 252 #[.val (.int le), .val (.int ff), .val (.int tt), .val (.int mo), .val (.int fl), .val (.int tl), .val (.int r2), .val (.int r3), .val (.int r4), .val (.int r5), .val (.int r6), .val (.int r7), .val (.ref x8), .val (.ref x10), .val (.int (0 : Int32)), .unset] [])
              refine own_st (fun t_ k_ => XS.iconst X10.here hx rfl (hb hby at_252) k_) ?_
              show own_Go p e below _ T10 (mkF m 253 #[.val (.int le), .val (.int ff), .val (.int tt), .val (.int mo), .val (.int fl), .val (.int tl), .val (.int r2), .val (.int r3), .val (.int r4), .val (.int r5), .val (.int r6), .val (.int r7), .val (.ref x8), .val (.ref x10), .val (.int (0 : Int32)), .unset] [(.int (0 : Int32))])
              refine own_st (fun t_ k_ => XS.istore X10.here hx rfl (hb hby at_253) rfl (l' := #[.val (.int le), .val (.int ff), .val (.int tt), .val (.int mo), .val (.int fl), .val (.int tl), .val (.int r2), .val (.int r3), .val (.int r4), .val (.int r5), .val (.int r6), .val (.int r7), .val (.ref x8), .val (.ref x10), .val (.int (0 : Int32)), .unset]) rfl k_) ?_
              show own_Go p e below _ T10 (mkF m 255 #[.val (.int le), .val (.int ff), .val (.int tt), .val (.int mo), .val (.int fl), .val (.int tl), .val (.int r2), .val (.int r3), .val (.int r4), .val (.int r5), .val (.int r6), .val (.int r7), .val (.ref x8), .val (.ref x10), .val (.int (0 : Int32)), .unset] [])
              exact J_ex (0 : Int32) rfl
            · refine own_st (fun t_ k_ => XS.icmpYes X10.here hx rfl (pc0 := 230) (pc' := 255) rfl (hb hby at_230) rfl (flt hc230_16).2.2.2 (by decide) (by decide) k_) ?_
              show own_Go p e below _ T10 (mkF m 255 #[.val (.int le), .val (.int ff), .val (.int tt), .val (.int mo), .val (.int fl), .val (.int tl), .val (.int r2), .val (.int r3), .val (.int r4), .val (.int r5), .val (.int r6), .val (.int r7), .val (.ref x8), .val (.ref x10), .val (.int (0 : Int32)), .unset] [])
              exact J_ex (0 : Int32) rfl
        · refine own_st (fun t_ k_ => XS.ifYes X10.here hx rfl (pc0 := 174) (pc' := 199) rfl (hb hby at_174) rfl ((if0 _ _).trans (flt hc174_11).2.2.2) (by decide) (by decide) k_) ?_
          show own_Go p e below _ T10 (mkF m 199 #[.val (.int le), .val (.int ff), .val (.int tt), .val (.int mo), .val (.int fl), .val (.int tl), .val (.int r2), .val (.int r3), .val (.int r4), .val (.int r5), .val (.int r6), .val (.int r7), .val (.ref x8), .val (.ref x10), .val (.int (0 : Int32)), .unset] [])
          refine own_st (fun t_ k_ => XS.iload X10.here hx rfl (hb hby at_199) rfl k_) ?_
          show own_Go p e below _ T10 (mkF m 201 #[.val (.int le), .val (.int ff), .val (.int tt), .val (.int mo), .val (.int fl), .val (.int tl), .val (.int r2), .val (.int r3), .val (.int r4), .val (.int r5), .val (.int r6), .val (.int r7), .val (.ref x8), .val (.ref x10), .val (.int (0 : Int32)), .unset] [(.int fl)])
          refine own_st (fun t_ k_ => XS.iconst X10.here hx rfl (hb hby at_201) k_) ?_
          show own_Go p e below _ T10 (mkF m 202 #[.val (.int le), .val (.int ff), .val (.int tt), .val (.int mo), .val (.int fl), .val (.int tl), .val (.int r2), .val (.int r3), .val (.int r4), .val (.int r5), .val (.int r6), .val (.int r7), .val (.ref x8), .val (.ref x10), .val (.int (0 : Int32)), .unset] [(.int (1 : Int32)), (.int fl)])
          by_cases hc202_12 : (1 : Int32) < fl
          · refine own_st (fun t_ k_ => XS.icmpNo X10.here hx rfl (hb hby at_202) rfl (tlt hc202_12).2.2.2 k_) ?_
            show own_Go p e below _ T10 (mkF m 205 #[.val (.int le), .val (.int ff), .val (.int tt), .val (.int mo), .val (.int fl), .val (.int tl), .val (.int r2), .val (.int r3), .val (.int r4), .val (.int r5), .val (.int r6), .val (.int r7), .val (.ref x8), .val (.ref x10), .val (.int (0 : Int32)), .unset] [])
            refine own_st (fun t_ k_ => XS.iload X10.here hx rfl (hb hby at_205) rfl k_) ?_
            show own_Go p e below _ T10 (mkF m 207 #[.val (.int le), .val (.int ff), .val (.int tt), .val (.int mo), .val (.int fl), .val (.int tl), .val (.int r2), .val (.int r3), .val (.int r4), .val (.int r5), .val (.int r6), .val (.int r7), .val (.ref x8), .val (.ref x10), .val (.int (0 : Int32)), .unset] [(.int (0 : Int32))])
            refine own_st (fun t_ k_ => XS.ifYes X10.here hx rfl (pc0 := 207) (pc' := 224) rfl (hb hby at_207) rfl (by decide) (by decide) (by decide) k_) ?_
            show own_Go p e below _ T10 (mkF m 224 #[.val (.int le), .val (.int ff), .val (.int tt), .val (.int mo), .val (.int fl), .val (.int tl), .val (.int r2), .val (.int r3), .val (.int r4), .val (.int r5), .val (.int r6), .val (.int r7), .val (.ref x8), .val (.ref x10), .val (.int (0 : Int32)), .unset] [])
            refine own_st (fun t_ k_ => XS.iconst X10.here hx rfl (hb hby at_224) k_) ?_
            show own_Go p e below _ T10 (mkF m 225 #[.val (.int le), .val (.int ff), .val (.int tt), .val (.int mo), .val (.int fl), .val (.int tl), .val (.int r2), .val (.int r3), .val (.int r4), .val (.int r5), .val (.int r6), .val (.int r7), .val (.ref x8), .val (.ref x10), .val (.int (0 : Int32)), .unset] [(.int (0 : Int32))])
            refine own_st (fun t_ k_ => XS.istore X10.here hx rfl (hb hby at_225) rfl (l' := #[.val (.int le), .val (.int ff), .val (.int tt), .val (.int mo), .val (.int fl), .val (.int tl), .val (.int r2), .val (.int r3), .val (.int r4), .val (.int r5), .val (.int r6), .val (.int r7), .val (.ref x8), .val (.ref x10), .val (.int (0 : Int32)), .unset]) rfl k_) ?_
            show own_Go p e below _ T10 (mkF m 227 #[.val (.int le), .val (.int ff), .val (.int tt), .val (.int mo), .val (.int fl), .val (.int tl), .val (.int r2), .val (.int r3), .val (.int r4), .val (.int r5), .val (.int r6), .val (.int r7), .val (.ref x8), .val (.ref x10), .val (.int (0 : Int32)), .unset] [])
            refine own_st (fun t_ k_ => XS.iload X10.here hx rfl (hb hby at_227) rfl k_) ?_
            show own_Go p e below _ T10 (mkF m 229 #[.val (.int le), .val (.int ff), .val (.int tt), .val (.int mo), .val (.int fl), .val (.int tl), .val (.int r2), .val (.int r3), .val (.int r4), .val (.int r5), .val (.int r6), .val (.int r7), .val (.ref x8), .val (.ref x10), .val (.int (0 : Int32)), .unset] [(.int fl)])
            refine own_st (fun t_ k_ => XS.iconst X10.here hx rfl (hb hby at_229) k_) ?_
            show own_Go p e below _ T10 (mkF m 230 #[.val (.int le), .val (.int ff), .val (.int tt), .val (.int mo), .val (.int fl), .val (.int tl), .val (.int r2), .val (.int r3), .val (.int r4), .val (.int r5), .val (.int r6), .val (.int r7), .val (.ref x8), .val (.ref x10), .val (.int (0 : Int32)), .unset] [(.int (2 : Int32)), (.int fl)])
            by_cases hc230_14 : (2 : Int32) < fl
            · refine own_st (fun t_ k_ => XS.icmpNo X10.here hx rfl (hb hby at_230) rfl (tlt hc230_14).2.2.2 k_) ?_
              show own_Go p e below _ T10 (mkF m 233 #[.val (.int le), .val (.int ff), .val (.int tt), .val (.int mo), .val (.int fl), .val (.int tl), .val (.int r2), .val (.int r3), .val (.int r4), .val (.int r5), .val (.int r6), .val (.int r7), .val (.ref x8), .val (.ref x10), .val (.int (0 : Int32)), .unset] [])
              refine own_st (fun t_ k_ => XS.iload X10.here hx rfl (hb hby at_233) rfl k_) ?_
              show own_Go p e below _ T10 (mkF m 235 #[.val (.int le), .val (.int ff), .val (.int tt), .val (.int mo), .val (.int fl), .val (.int tl), .val (.int r2), .val (.int r3), .val (.int r4), .val (.int r5), .val (.int r6), .val (.int r7), .val (.ref x8), .val (.ref x10), .val (.int (0 : Int32)), .unset] [(.int (0 : Int32))])
              refine own_st (fun t_ k_ => XS.ifYes X10.here hx rfl (pc0 := 235) (pc' := 252) rfl (hb hby at_235) rfl (by decide) (by decide) (by decide) k_) ?_
              show own_Go p e below _ T10 (mkF m 252 #[.val (.int le), .val (.int ff), .val (.int tt), .val (.int mo), .val (.int fl), .val (.int tl), .val (.int r2), .val (.int r3), .val (.int r4), .val (.int r5), .val (.int r6), .val (.int r7), .val (.ref x8), .val (.ref x10), .val (.int (0 : Int32)), .unset] [])
              refine own_st (fun t_ k_ => XS.iconst X10.here hx rfl (hb hby at_252) k_) ?_
              show own_Go p e below _ T10 (mkF m 253 #[.val (.int le), .val (.int ff), .val (.int tt), .val (.int mo), .val (.int fl), .val (.int tl), .val (.int r2), .val (.int r3), .val (.int r4), .val (.int r5), .val (.int r6), .val (.int r7), .val (.ref x8), .val (.ref x10), .val (.int (0 : Int32)), .unset] [(.int (0 : Int32))])
              refine own_st (fun t_ k_ => XS.istore X10.here hx rfl (hb hby at_253) rfl (l' := #[.val (.int le), .val (.int ff), .val (.int tt), .val (.int mo), .val (.int fl), .val (.int tl), .val (.int r2), .val (.int r3), .val (.int r4), .val (.int r5), .val (.int r6), .val (.int r7), .val (.ref x8), .val (.ref x10), .val (.int (0 : Int32)), .unset]) rfl k_) ?_
              show own_Go p e below _ T10 (mkF m 255 #[.val (.int le), .val (.int ff), .val (.int tt), .val (.int mo), .val (.int fl), .val (.int tl), .val (.int r2), .val (.int r3), .val (.int r4), .val (.int r5), .val (.int r6), .val (.int r7), .val (.ref x8), .val (.ref x10), .val (.int (0 : Int32)), .unset] [])
              exact J_ex (0 : Int32) rfl
            · refine own_st (fun t_ k_ => XS.icmpYes X10.here hx rfl (pc0 := 230) (pc' := 255) rfl (hb hby at_230) rfl (flt hc230_14).2.2.2 (by decide) (by decide) k_) ?_
              show own_Go p e below _ T10 (mkF m 255 #[.val (.int le), .val (.int ff), .val (.int tt), .val (.int mo), .val (.int fl), .val (.int tl), .val (.int r2), .val (.int r3), .val (.int r4), .val (.int r5), .val (.int r6), .val (.int r7), .val (.ref x8), .val (.ref x10), .val (.int (0 : Int32)), .unset] [])
              exact J_ex (0 : Int32) rfl
          · refine own_st (fun t_ k_ => XS.icmpYes X10.here hx rfl (pc0 := 202) (pc' := 227) rfl (hb hby at_202) rfl (flt hc202_12).2.2.2 (by decide) (by decide) k_) ?_
            show own_Go p e below _ T10 (mkF m 227 #[.val (.int le), .val (.int ff), .val (.int tt), .val (.int mo), .val (.int fl), .val (.int tl), .val (.int r2), .val (.int r3), .val (.int r4), .val (.int r5), .val (.int r6), .val (.int r7), .val (.ref x8), .val (.ref x10), .val (.int (0 : Int32)), .unset] [])
            refine own_st (fun t_ k_ => XS.iload X10.here hx rfl (hb hby at_227) rfl k_) ?_
            show own_Go p e below _ T10 (mkF m 229 #[.val (.int le), .val (.int ff), .val (.int tt), .val (.int mo), .val (.int fl), .val (.int tl), .val (.int r2), .val (.int r3), .val (.int r4), .val (.int r5), .val (.int r6), .val (.int r7), .val (.ref x8), .val (.ref x10), .val (.int (0 : Int32)), .unset] [(.int fl)])
            refine own_st (fun t_ k_ => XS.iconst X10.here hx rfl (hb hby at_229) k_) ?_
            show own_Go p e below _ T10 (mkF m 230 #[.val (.int le), .val (.int ff), .val (.int tt), .val (.int mo), .val (.int fl), .val (.int tl), .val (.int r2), .val (.int r3), .val (.int r4), .val (.int r5), .val (.int r6), .val (.int r7), .val (.ref x8), .val (.ref x10), .val (.int (0 : Int32)), .unset] [(.int (2 : Int32)), (.int fl)])
            by_cases hc230_13 : (2 : Int32) < fl
            · refine own_st (fun t_ k_ => XS.icmpNo X10.here hx rfl (hb hby at_230) rfl (tlt hc230_13).2.2.2 k_) ?_
              show own_Go p e below _ T10 (mkF m 233 #[.val (.int le), .val (.int ff), .val (.int tt), .val (.int mo), .val (.int fl), .val (.int tl), .val (.int r2), .val (.int r3), .val (.int r4), .val (.int r5), .val (.int r6), .val (.int r7), .val (.ref x8), .val (.ref x10), .val (.int (0 : Int32)), .unset] [])
              refine own_st (fun t_ k_ => XS.iload X10.here hx rfl (hb hby at_233) rfl k_) ?_
              show own_Go p e below _ T10 (mkF m 235 #[.val (.int le), .val (.int ff), .val (.int tt), .val (.int mo), .val (.int fl), .val (.int tl), .val (.int r2), .val (.int r3), .val (.int r4), .val (.int r5), .val (.int r6), .val (.int r7), .val (.ref x8), .val (.ref x10), .val (.int (0 : Int32)), .unset] [(.int (0 : Int32))])
              refine own_st (fun t_ k_ => XS.ifYes X10.here hx rfl (pc0 := 235) (pc' := 252) rfl (hb hby at_235) rfl (by decide) (by decide) (by decide) k_) ?_
              show own_Go p e below _ T10 (mkF m 252 #[.val (.int le), .val (.int ff), .val (.int tt), .val (.int mo), .val (.int fl), .val (.int tl), .val (.int r2), .val (.int r3), .val (.int r4), .val (.int r5), .val (.int r6), .val (.int r7), .val (.ref x8), .val (.ref x10), .val (.int (0 : Int32)), .unset] [])
              refine own_st (fun t_ k_ => XS.iconst X10.here hx rfl (hb hby at_252) k_) ?_
              show own_Go p e below _ T10 (mkF m 253 #[.val (.int le), .val (.int ff), .val (.int tt), .val (.int mo), .val (.int fl), .val (.int tl), .val (.int r2), .val (.int r3), .val (.int r4), .val (.int r5), .val (.int r6), .val (.int r7), .val (.ref x8), .val (.ref x10), .val (.int (0 : Int32)), .unset] [(.int (0 : Int32))])
              refine own_st (fun t_ k_ => XS.istore X10.here hx rfl (hb hby at_253) rfl (l' := #[.val (.int le), .val (.int ff), .val (.int tt), .val (.int mo), .val (.int fl), .val (.int tl), .val (.int r2), .val (.int r3), .val (.int r4), .val (.int r5), .val (.int r6), .val (.int r7), .val (.ref x8), .val (.ref x10), .val (.int (0 : Int32)), .unset]) rfl k_) ?_
              show own_Go p e below _ T10 (mkF m 255 #[.val (.int le), .val (.int ff), .val (.int tt), .val (.int mo), .val (.int fl), .val (.int tl), .val (.int r2), .val (.int r3), .val (.int r4), .val (.int r5), .val (.int r6), .val (.int r7), .val (.ref x8), .val (.ref x10), .val (.int (0 : Int32)), .unset] [])
              exact J_ex (0 : Int32) rfl
            · refine own_st (fun t_ k_ => XS.icmpYes X10.here hx rfl (pc0 := 230) (pc' := 255) rfl (hb hby at_230) rfl (flt hc230_13).2.2.2 (by decide) (by decide) k_) ?_
              show own_Go p e below _ T10 (mkF m 255 #[.val (.int le), .val (.int ff), .val (.int tt), .val (.int mo), .val (.int fl), .val (.int tl), .val (.int r2), .val (.int r3), .val (.int r4), .val (.int r5), .val (.int r6), .val (.int r7), .val (.ref x8), .val (.ref x10), .val (.int (0 : Int32)), .unset] [])
              exact J_ex (0 : Int32) rfl
  · show own_Go p e below _ s₁ (mkF m 10 #[.val (.int le), .val (.int ff), .val (.int tt), .val (.int mo), .val (.int fl), .unset, .unset, .unset, .unset, .unset, .unset, .unset, .unset, .unset, .unset, .unset] [(.int (((le.toUInt32 >>> ((4 : Int32) &&& 31).toUInt32).toInt32) &&& (1 : Int32)))])
    by_cases hc10_1 : (((le.toUInt32 >>> ((4 : Int32) &&& 31).toUInt32).toInt32) &&& (1 : Int32)) = (0 : Int32)
    · refine own_st (fun t_ k_ => XS.ifYes X0.here hx rfl (pc0 := 10) (pc' := 18) rfl (hb hby at_10) rfl ((if0 _ _).trans (teq hc10_1).1) (by decide) (by decide) k_) ?_
      show own_Go p e below _ s₁ (mkF m 18 #[.val (.int le), .val (.int ff), .val (.int tt), .val (.int mo), .val (.int fl), .unset, .unset, .unset, .unset, .unset, .unset, .unset, .unset, .unset, .unset, .unset] [])
      refine own_st (fun t_ k_ => XS.iloadN X0.here hx rfl (hb hby at_18) rfl k_) ?_
      show own_Go p e below _ s₁ (mkF m 19 #[.val (.int le), .val (.int ff), .val (.int tt), .val (.int mo), .val (.int fl), .unset, .unset, .unset, .unset, .unset, .unset, .unset, .unset, .unset, .unset, .unset] [(.int le)])
      refine own_st (fun t_ k_ => XS.iconst X0.here hx rfl (hb hby at_19) k_) ?_
      show own_Go p e below _ s₁ (mkF m 20 #[.val (.int le), .val (.int ff), .val (.int tt), .val (.int mo), .val (.int fl), .unset, .unset, .unset, .unset, .unset, .unset, .unset, .unset, .unset, .unset, .unset] [(.int (2 : Int32)), (.int le)])
      refine own_st (fun t_ k_ => XS.iushr X0.here hx rfl (hb hby at_20) rfl k_) ?_
      show own_Go p e below _ s₁ (mkF m 21 #[.val (.int le), .val (.int ff), .val (.int tt), .val (.int mo), .val (.int fl), .unset, .unset, .unset, .unset, .unset, .unset, .unset, .unset, .unset, .unset, .unset] [(.int ((le.toUInt32 >>> ((2 : Int32) &&& 31).toUInt32).toInt32))])
      refine own_st (fun t_ k_ => XS.iconst X0.here hx rfl (hb hby at_21) k_) ?_
      show own_Go p e below _ s₁ (mkF m 22 #[.val (.int le), .val (.int ff), .val (.int tt), .val (.int mo), .val (.int fl), .unset, .unset, .unset, .unset, .unset, .unset, .unset, .unset, .unset, .unset, .unset] [(.int (3 : Int32)), (.int ((le.toUInt32 >>> ((2 : Int32) &&& 31).toUInt32).toInt32))])
      refine own_st (fun t_ k_ => XS.iand X0.here hx rfl (hb hby at_22) rfl k_) ?_
      show own_Go p e below _ s₁ (mkF m 23 #[.val (.int le), .val (.int ff), .val (.int tt), .val (.int mo), .val (.int fl), .unset, .unset, .unset, .unset, .unset, .unset, .unset, .unset, .unset, .unset, .unset] [(.int (((le.toUInt32 >>> ((2 : Int32) &&& 31).toUInt32).toInt32) &&& (3 : Int32)))])
      exact J_tl (((le.toUInt32 >>> ((2 : Int32) &&& 31).toUInt32).toInt32) &&& (3 : Int32)) (own_and3 _)
    · refine own_st (fun t_ k_ => XS.ifNo X0.here hx rfl (hb hby at_10) rfl ((if0 _ _).trans (feq hc10_1).1) k_) ?_
      show own_Go p e below _ s₁ (mkF m 13 #[.val (.int le), .val (.int ff), .val (.int tt), .val (.int mo), .val (.int fl), .unset, .unset, .unset, .unset, .unset, .unset, .unset, .unset, .unset, .unset, .unset] [])
      refine own_st (fun t_ k_ => XS.iload X0.here hx rfl (hb hby at_13) rfl k_) ?_
      show own_Go p e below _ s₁ (mkF m 15 #[.val (.int le), .val (.int ff), .val (.int tt), .val (.int mo), .val (.int fl), .unset, .unset, .unset, .unset, .unset, .unset, .unset, .unset, .unset, .unset, .unset] [(.int fl)])
      refine own_st (fun t_ k_ => XS.goto X0.here hx rfl (pc0 := 15) (pc' := 23) rfl (hb hby at_15) (by decide) (by decide) k_) ?_
      show own_Go p e below _ s₁ (mkF m 23 #[.val (.int le), .val (.int ff), .val (.int tt), .val (.int mo), .val (.int fl), .unset, .unset, .unset, .unset, .unset, .unset, .unset, .unset, .unset, .unset, .unset] [(.int fl)])
      exact J_tl fl d_fl
set_option maxRecDepth 65536 in
set_option maxHeartbeats 40000000 in
theorem comes_1 {Post : Tables → Env → Array Value → State → Outcome → State → Prop} (hpost : ∀ tb e args s v u, (limb_1_1.after args s (.returned v) u = true ∧ limb_1_2.after args s (.returned v) u = true ∧ True) → ReturnedEndW s (.returned v) u (Jvm.fieldLocs frame_1_writes args s ++ Jvm.arrayLocs frame_1_arrays args s ++ Jvm.staticLocs frame_1_statics s) 24 1152 → Post tb e args s (.returned v) u) :
    ArmFor flags0 classFile x code maxLocals ret World_1 tables_1 room_1 Calls_1 rest_1 Pre_1 Post := by
  intro l hfl _ _ p e ha hc hk s m args below hf hA hF happ hP
  obtain ⟨hcalls, hrest, hpre⟩ := hP
  obtain ⟨-, -, -, hnamed, -, -, -, hat⟩ := (Spec.applies_iff hf).mp happ
  obtain ⟨hg, hn⟩ := and_e (Cond.before_iff.mp (show (Jvm.Cond.and given_1 narrow_1).before args s = true from hpre))
  obtain ⟨g0, hg0⟩ := and_e hg
  obtain ⟨g1, hg1⟩ := and_e hg0
  obtain ⟨g2, hg2⟩ := and_e hg1
  obtain ⟨g3, hg3⟩ := and_e hg2
  obtain ⟨w0, w1, w2, w3, rfl⟩ : ∃ w0 w1 w2 w3 : Value, args = #[w0, w1, w2, w3] := by
    have hs : args.size = 4 := by simpa [Cond.value, given_1] using g0
    obtain ⟨L⟩ := args
    match L, hs with
    | [w0, w1, w2, w3], _ => exact ⟨w0, w1, w2, w3, rfl⟩
  have hw := fun d (hd : d ∈ tables_1) => atoms_spec (ws := Jvm.Cond.code x code maxLocals ret :: tables_1) hat d (List.mem_cons_of_mem _ hd)
  have hfit : Fit s := fun {y c} hc i hi => by
    obtain ⟨ha, rfl⟩ := Array.getElem?_eq_some_iff.mp hc
    have q := List.all_eq_true.mp ((Array.all_eq_true_iff_forall_mem.mp hF) _ (Array.getElem_mem ha)) i (List.mem_range.mpr hi)
    simpa [Array.getElem?_eq_getElem hi] using q
  obtain ⟨hsets, hown0⟩ := atoms_of _ (rest_1_c_eq ▸ (show rest_1_c.before _ s = true from hrest))
  obtain ⟨i0, ei0⟩ := is_v g1
  obtain rfl : w0 = (.int i0) := Option.some.inj ei0
  obtain ⟨i1, ei1⟩ := is_v g2
  obtain rfl : w1 = (.int i1) := Option.some.inj ei1
  obtain ⟨i2, ei2⟩ := is_v g3
  obtain rfl : w2 = (.int i2) := Option.some.inj ei2
  obtain ⟨i3, ei3⟩ := is_v hg3
  obtain rfl : w3 = (.int i3) := Option.some.inj ei3
  have nCS5 := not_v (Cond.before_iff.mp (hsets _ (List.mem_of_getElem? (i := 2) rfl)))
  obtain ⟨cs11, e10⟩ := is_v (Cond.before_iff.mp (hsets _ (List.mem_of_getElem? (i := 1) rfl)))
  have S12 : Sta s s.heap "java/lang/String" "COMPACT_STRINGS" "Z" (.int cs11) := Sta.start e10 (Or.inl (hsets _ (List.mem_of_getElem? (i := 0) rfl)))
  have c17 : ¬ (cs11 = (0 : Int32)) := gotF (Cond.eq_ints e10 (Term.int_eval (0))) nCS5
  obtain ⟨v13, e14, r15⟩ := isR_v (Cond.before_iff.mp (hsets _ (List.mem_of_getElem? (i := 8) rfl)))
  have S16 : Sta s s.heap "jdk/internal/util/Preconditions" "SIOOBE_FORMATTER" "Ljava/util/function/BiFunction;" v13 := Sta.start e14 (Or.inl (hsets _ (List.mem_of_getElem? (i := 7) rfl)))
  have hCH : CHv s consts_1 s.vm s.heap := CHv.start (own_EL hw) (fun p hp => hcalls.1 p hp) (hsets _ (List.mem_of_getElem? (i := 2) rfl)) (hw _ (List.mem_of_getElem? (i := 25) rfl)) (hw _ (List.mem_of_getElem? (i := 11) rfl))
  obtain ⟨n, o, h1, h2, h3, _, L, rfl, ⟨rfl, N⟩, -, hq⟩ := rm0 l s _ hw tables_1 i0 i1 i2 i3 cs11 v13 s.heap s.heap.size (Nat.le_refl _) S12 c17 (Old.start s) S16 r15 p e ha hc hk s m _ below hf ((Spec.applies_iff_loose hf).mp happ).1 ⟨rfl, State.Warmed39.refl s, rfl, hCH⟩ trivial
  refine ⟨n, _, h1, h2, h3, hpost _ _ _ _ _ _ ⟨Cond.after_iff.mpr rfl, Cond.after_iff.mpr (eq_i res_at (Term.int_eval (1)) rfl), trivial⟩ ⟨hq.1, hq.2.1, hq.2.2.1, (hq.2.2.2.sift fun y hy => Or.inr (N y hy)).mono (by decide) (by decide)⟩⟩
theorem main_1_1 : Claimed_1_1 := comes_1 fun _ _ _ _ _ _ h hF => ⟨h.1, hF⟩
theorem main_1_2 : Claimed_1_2 := comes_1 fun _ _ _ _ _ _ h hF => ⟨h.2.1, hF⟩
end Jvm.Pilot.@@N@@
namespace Jvm.Pilot.@@N@@
open Jvm Jvm.ClassFile Sem Op Lib Jvm.Free Jvm.Stand Jvm.Pilot.@@N@@.Jvm.D
/-! MADE BY PROGRAM (witnessworld.py) out of the Statement's table words and the real class files: 20 classes; the members and pool entries that the words name. The judged class is class 1, her method 1. -/
namespace start1
open Jvm.ClassFile
def u (s : String) : CpInfo := .utf8 (stringToUtf16 s)
/-- a pool by its gaps: so many unusable entries, then the entry; so many at the end -/
def gap : Nat → List CpInfo → List CpInfo
  | 0, r => r
  | n + 1, r => .unusable :: gap n r
def poolList (es : List (Nat × CpInfo)) (last : Nat) : List CpInfo := es.foldr (fun e r => gap e.1 (e.2 :: r)) (gap last [])
def pool (es : List (Nat × CpInfo)) (last : Nat) : Array CpInfo := ⟨poolList es last⟩
def fileOf (pool : Array CpInfo) (this : Nat) (attrs : Array Attribute := #[]) (ms : Array MethodInfo := #[]) (fl : Nat := 33) (sup : Nat := 0) (ifs : Array Nat := #[]) (fds : Array FieldInfo := #[]) : ClassFile where
  minorVersion := 0
  majorVersion := 65
  constantPool := pool
  accessFlags := fl
  thisClass := this
  superClass := sup
  interfaces := ifs
  fields := fds
  methods := ms
  attributes := attrs
def plain (name : String) (sup : Option ClassId) : Class where
  name := name
  kind := .ordinary
  loader := none
  accessFlags := 33
  super := sup
  interfaces := #[]
  cf := none
  fields := #[]
  methods := #[]
  instanceTypes := #[]
  staticTypes := #[]
  resolved := #[]
  callSites := []
  init := .initialized
  statics := none
  mirror := none

def pool0 : Array CpInfo := pool [(5, u "<init>"), (0, u "()V"), (1, .class_ 10), (1, u "java/lang/Object")] 113

def k0c0 : Code := { maxStack := 0, maxLocals := 1, code := object_method_1_code, exceptionTable := #[], attributes := #[] }
def k0m0 : Method := { name := "<init>", desc := "()V", sig := { parameters := [], returnType := none }, accessFlags := 1, code := some k0c0 }
/-- java/lang/Object -/
def k0 : Class := { plain "java/lang/Object" none with
  accessFlags := 33
  interfaces := #[]
  cf := some (fileOf pool0 8 #[] #[{ accessFlags := 1, nameIndex := 5, descriptorIndex := 6, attributes := #[] }] 33 0 #[] #[])
  fields := #[]
  methods := #[k0m0]
  instanceTypes := #[]
  staticTypes := #[]
  resolved := Array.replicate 124 none
  statics := none }

def pool1 : Array CpInfo := pool [(2, .class_ 4), (1, u "java/lang/Object"), (0, u "<init>"), (0, u "()V"), (0, .methodref 8 9), (0, .class_ 10), (0, .nameAndType 11 12), (0, u "com/example/hebelwerk/hebelwerk/io/FixedFormMatchesPinLaw"), (0, u "formChar"), (0, u "(II)C"), (0, .methodref 8 14), (0, .nameAndType 15 16), (0, u "textChar"), (0, u "(IIC)C"), (0, .methodref 8 18), (0, .nameAndType 19 20), (0, u "make"), (0, u "(ICCC)Ljava/lang/String;"), (0, .methodref 8 22), (0, .nameAndType 23 24), (0, u "fits"), (0, u "(CC)Z"), (0, .class_ 26), (0, u "com/example/hebelwerk/hebelwerk/io/FixedForm"), (0, .methodref 25 28), (0, .nameAndType 5 29), (0, u "(Ljava/lang/String;)V"), (0, .methodref 25 31), (0, .nameAndType 32 33), (0, u "matches"), (0, u "(Ljava/lang/String;)Z"), (0, .class_ 35), (0, u "java/lang/String"), (0, .methodref 34 37), (0, .nameAndType 5 38), (0, u "([C)V"), (2, u "law"), (0, u "(IIII)Z")] 3

def k1m0 : Method := { name := "<init>", desc := "()V", sig := { parameters := [], returnType := none }, accessFlags := 1, code := none }
def k1c1 : Code := { maxStack := 4, maxLocals := 16, code := code, exceptionTable := #[], attributes := #[] }
def k1m1 : Method := { name := "law", desc := "(IIII)Z", sig := { parameters := [.int, .int, .int, .int], returnType := some .boolean }, accessFlags := 9, code := some k1c1 }
def k1c2 : Code := { maxStack := 3, maxLocals := 2, code := method_3_code, exceptionTable := #[], attributes := #[] }
def k1m2 : Method := { name := "formChar", desc := "(II)C", sig := { parameters := [.int, .int], returnType := some .char }, accessFlags := 10, code := some k1c2 }
def k1c3 : Code := { maxStack := 3, maxLocals := 4, code := method_4_code, exceptionTable := #[], attributes := #[] }
def k1m3 : Method := { name := "textChar", desc := "(IIC)C", sig := { parameters := [.int, .int, .char], returnType := some .char }, accessFlags := 10, code := some k1c3 }
def k1c4 : Code := { maxStack := 6, maxLocals := 4, code := method_5_code, exceptionTable := #[], attributes := #[] }
def k1m4 : Method := { name := "make", desc := "(ICCC)Ljava/lang/String;", sig := { parameters := [.int, .char, .char, .char], returnType := some (.object "java/lang/String") }, accessFlags := 10, code := some k1c4 }
def k1c5 : Code := { maxStack := 2, maxLocals := 2, code := method_6_code, exceptionTable := #[], attributes := #[] }
def k1m5 : Method := { name := "fits", desc := "(CC)Z", sig := { parameters := [.char, .char], returnType := some .boolean }, accessFlags := 10, code := some k1c5 }
/-- com/example/hebelwerk/hebelwerk/io/FixedFormMatchesPinLaw -/
def k1 : Class := { plain "com/example/hebelwerk/hebelwerk/io/FixedFormMatchesPinLaw" (some 0) with
  accessFlags := 49
  interfaces := #[]
  cf := some (fileOf pool1 8 #[] #[{ accessFlags := 1, nameIndex := 5, descriptorIndex := 6, attributes := #[] }, { accessFlags := 9, nameIndex := 41, descriptorIndex := 42, attributes := #[] }, { accessFlags := 10, nameIndex := 11, descriptorIndex := 12, attributes := #[] }, { accessFlags := 10, nameIndex := 15, descriptorIndex := 16, attributes := #[] }, { accessFlags := 10, nameIndex := 19, descriptorIndex := 20, attributes := #[] }, { accessFlags := 10, nameIndex := 23, descriptorIndex := 24, attributes := #[] }] 49 2 #[] #[])
  fields := #[]
  methods := #[k1m0, k1m1, k1m2, k1m3, k1m4, k1m5]
  instanceTypes := #[]
  staticTypes := #[]
  resolved := Array.replicate 46 none
  statics := none }

def pool2 : Array CpInfo := pool [(1, .class_ 2), (0, u "java/io/Serializable"), (0, .class_ 4), (0, u "java/lang/Object")] 2

/-- java/io/Serializable -/
def k2 : Class := { plain "java/io/Serializable" (some 0) with
  accessFlags := 1537
  interfaces := #[]
  cf := some (fileOf pool2 1 #[] #[] 1537 3 #[] #[])
  fields := #[]
  methods := #[]
  instanceTypes := #[]
  staticTypes := #[]
  resolved := Array.replicate 7 none
  statics := none }

def pool3 : Array CpInfo := pool [(1, .class_ 2), (0, u "java/lang/Comparable"), (0, .class_ 4), (0, u "java/lang/Object")] 7

/-- java/lang/Comparable -/
def k3 : Class := { plain "java/lang/Comparable" (some 0) with
  accessFlags := 1537
  interfaces := #[]
  cf := some (fileOf pool3 1 #[] #[] 1537 3 #[] #[])
  fields := #[]
  methods := #[]
  instanceTypes := #[]
  staticTypes := #[]
  resolved := Array.replicate 12 none
  statics := none }

def pool4 : Array CpInfo := pool [(2, .class_ 4), (1, u "java/lang/CharSequence"), (42, .class_ 48), (0, u "java/lang/CharSequence$1CodePointIterator"), (10, .class_ 60), (0, u "java/lang/CharSequence$1CharIterator"), (5, .class_ 67), (0, u "java/lang/Object")] 63

/-- java/lang/CharSequence -/
def k4 : Class := { plain "java/lang/CharSequence" (some 0) with
  accessFlags := 1537
  interfaces := #[]
  cf := some (fileOf pool4 2 #[.nestMembers #[47, 59]] #[] 1537 66 #[] #[])
  fields := #[]
  methods := #[]
  instanceTypes := #[]
  staticTypes := #[]
  resolved := Array.replicate 131 none
  statics := none }

def pool5 : Array CpInfo := pool [(1, .class_ 2), (0, u "java/lang/constant/Constable"), (0, .class_ 4), (0, u "java/lang/Object")] 6

/-- java/lang/constant/Constable -/
def k5 : Class := { plain "java/lang/constant/Constable" (some 0) with
  accessFlags := 1537
  interfaces := #[]
  cf := some (fileOf pool5 1 #[] #[] 1537 3 #[] #[])
  fields := #[]
  methods := #[]
  instanceTypes := #[]
  staticTypes := #[]
  resolved := Array.replicate 11 none
  statics := none }

def pool6 : Array CpInfo := pool [(1, .class_ 2), (0, u "java/lang/constant/ConstantDesc"), (0, .class_ 4), (0, u "java/lang/Object")] 32

/-- java/lang/constant/ConstantDesc -/
def k6 : Class := { plain "java/lang/constant/ConstantDesc" (some 0) with
  accessFlags := 1537
  interfaces := #[]
  cf := some (fileOf pool6 1 #[] #[] 1537 3 #[] #[])
  fields := #[]
  methods := #[]
  instanceTypes := #[]
  staticTypes := #[]
  resolved := Array.replicate 37 none
  statics := none }

def pool7 : Array CpInfo := pool [(1, .methodref 2 3), (0, .class_ 4), (0, .nameAndType 5 6), (0, u "java/lang/Object"), (0, u "<init>"), (0, u "()V"), (0, .string 8), (0, u ""), (0, .fieldref 10 11), (0, .class_ 12), (0, .nameAndType 13 14), (0, u "java/lang/String"), (0, u "value"), (0, u "[B"), (0, .fieldref 10 16), (0, .nameAndType 17 18), (0, u "coder"), (0, u "B"), (2, u "hash"), (0, u "I"), (2, u "hashIsZero"), (0, u "Z"), (0, .methodref 10 28), (0, .nameAndType 5 29), (0, u "([CIILjava/lang/Void;)V"), (8, .fieldref 10 39), (0, .nameAndType 40 26), (0, u "COMPACT_STRINGS"), (1, .class_ 44), (1, u "java/lang/StringUTF16"), (0, u "compress"), (1, .methodref 42 48), (0, .nameAndType 49 50), (0, u "coderFromArrayLen"), (0, u "([BI)B"), (56, .class_ 109), (1, u "java/lang/StringLatin1"), (32, u "()Z"), (34, .methodref 42 178), (0, .nameAndType 45 179), (0, u "([CII)[B"), (154, u "()I"), (0, .methodref 10 336), (0, .nameAndType 17 337), (0, u "()B"), (25, u "([BI)C"), (27, u "(II)V"), (35, u "(I)C"), (64, .methodref 10 493), (0, .nameAndType 494 142), (0, u "isLatin1"), (0, .methodref 107 496), (0, .nameAndType 497 363), (0, u "charAt"), (3, u "checkIndex"), (5, u "length"), (67, .class_ 576), (0, u "java/lang/CharSequence"), (22, u "CASE_INSENSITIVE_ORDER"), (0, u "Ljava/util/Comparator;"), (409, u "([C)V"), (42, .fieldref 1054 1055), (0, .class_ 1056), (0, .nameAndType 1057 1058), (0, u "jdk/internal/util/Preconditions"), (0, u "SIOOBE_FORMATTER"), (0, u "Ljava/util/function/BiFunction;"), (0, .methodref 1054 1060), (0, .nameAndType 501 1061), (0, u "(IILjava/util/function/BiFunction;)I"), (39, u "serialPersistentFields"), (0, u "[Ljava/io/ObjectStreamField;"), (0, .class_ 1104), (0, u "java/lang/String$CaseInsensitiveComparator"), (1, .class_ 1107), (0, u "java/io/Serializable"), (0, .class_ 1109), (0, u "java/lang/Comparable"), (0, .class_ 1111), (0, u "java/lang/constant/Constable"), (0, .class_ 1113), (0, u "java/lang/constant/ConstantDesc"), (2, u "serialVersionUID"), (0, u "J"), (3, u "REPL"), (0, u "C"), (2, u "LATIN1"), (1, u "UTF16")] 323

def k7m0 : Method := { name := "<init>", desc := "()V", sig := { parameters := [], returnType := none }, accessFlags := 1, code := none }
def k7c1 : Code := { maxStack := 5, maxLocals := 2, code := jdk_42_method_3_code, exceptionTable := #[], attributes := #[] }
def k7m1 : Method := { name := "<init>", desc := "([C)V", sig := { parameters := [(.array .char)], returnType := none }, accessFlags := 1, code := some k7c1 }
def k7c2 : Code := { maxStack := 2, maxLocals := 1, code := jdk_42_method_54_code, exceptionTable := #[], attributes := #[] }
def k7m2 : Method := { name := "length", desc := "()I", sig := { parameters := [], returnType := some .int }, accessFlags := 1, code := some k7c2 }
def k7c3 : Code := { maxStack := 2, maxLocals := 2, code := jdk_42_method_56_code, exceptionTable := #[], attributes := #[] }
def k7m3 : Method := { name := "charAt", desc := "(I)C", sig := { parameters := [.int], returnType := some .char }, accessFlags := 1, code := some k7c3 }
def k7c4 : Code := { maxStack := 4, maxLocals := 6, code := jdk_42_method_149_code, exceptionTable := #[], attributes := #[] }
def k7m4 : Method := { name := "<init>", desc := "([CIILjava/lang/Void;)V", sig := { parameters := [(.array .char), .int, .int, (.object "java/lang/Void")], returnType := none }, accessFlags := 2, code := some k7c4 }
def k7c5 : Code := { maxStack := 1, maxLocals := 1, code := jdk_42_method_152_code, exceptionTable := #[], attributes := #[] }
def k7m5 : Method := { name := "coder", desc := "()B", sig := { parameters := [], returnType := some .byte }, accessFlags := 0, code := some k7c5 }
def k7c6 : Code := { maxStack := 1, maxLocals := 1, code := jdk_42_method_154_code, exceptionTable := #[], attributes := #[] }
def k7m6 : Method := { name := "isLatin1", desc := "()Z", sig := { parameters := [], returnType := some .boolean }, accessFlags := 0, code := some k7c6 }
def k7c7 : Code := { maxStack := 3, maxLocals := 2, code := jdk_42_method_155_code, exceptionTable := #[], attributes := #[] }
def k7m7 : Method := { name := "checkIndex", desc := "(II)V", sig := { parameters := [.int, .int], returnType := none }, accessFlags := 8, code := some k7c7 }
/-- java/lang/String -/
def k7 : Class := { plain "java/lang/String" (some 0) with
  accessFlags := 49
  interfaces := #[2, 3, 4, 5, 6]
  cf := some (fileOf pool7 10 #[.nestMembers #[1103]] #[{ accessFlags := 1, nameIndex := 5, descriptorIndex := 6, attributes := #[] }, { accessFlags := 1, nameIndex := 5, descriptorIndex := 1010, attributes := #[] }, { accessFlags := 1, nameIndex := 507, descriptorIndex := 334, attributes := #[] }, { accessFlags := 1, nameIndex := 497, descriptorIndex := 427, attributes := #[] }, { accessFlags := 2, nameIndex := 5, descriptorIndex := 29, attributes := #[] }, { accessFlags := 0, nameIndex := 17, descriptorIndex := 337, attributes := #[] }, { accessFlags := 0, nameIndex := 494, descriptorIndex := 142, attributes := #[] }, { accessFlags := 8, nameIndex := 501, descriptorIndex := 391, attributes := #[] }] 49 2 #[1106, 1108, 575, 1110, 1112] #[{ accessFlags := 18, nameIndex := 13, descriptorIndex := 14, attributes := #[] }, { accessFlags := 18, nameIndex := 17, descriptorIndex := 18, attributes := #[] }, { accessFlags := 2, nameIndex := 21, descriptorIndex := 22, attributes := #[] }, { accessFlags := 2, nameIndex := 25, descriptorIndex := 26, attributes := #[] }, { accessFlags := 26, nameIndex := 1116, descriptorIndex := 1117, attributes := #[] }, { accessFlags := 24, nameIndex := 40, descriptorIndex := 26, attributes := #[] }, { accessFlags := 26, nameIndex := 1101, descriptorIndex := 1102, attributes := #[] }, { accessFlags := 26, nameIndex := 1121, descriptorIndex := 1122, attributes := #[] }, { accessFlags := 25, nameIndex := 599, descriptorIndex := 600, attributes := #[] }, { accessFlags := 24, nameIndex := 1125, descriptorIndex := 18, attributes := #[] }, { accessFlags := 24, nameIndex := 1127, descriptorIndex := 18, attributes := #[] }])
  fields := #[{ name := "value", type := (.array .byte), accessFlags := 18, slot := 0, constantValue := 0 }, { name := "coder", type := .byte, accessFlags := 18, slot := 1, constantValue := 0 }, { name := "hash", type := .int, accessFlags := 2, slot := 2, constantValue := 0 }, { name := "hashIsZero", type := .boolean, accessFlags := 2, slot := 3, constantValue := 0 }, { name := "serialVersionUID", type := .long, accessFlags := 26, slot := 0, constantValue := 0 }, { name := "COMPACT_STRINGS", type := .boolean, accessFlags := 24, slot := 1, constantValue := 0 }, { name := "serialPersistentFields", type := (.array (.object "java/io/ObjectStreamField")), accessFlags := 26, slot := 2, constantValue := 0 }, { name := "REPL", type := .char, accessFlags := 26, slot := 3, constantValue := 0 }, { name := "CASE_INSENSITIVE_ORDER", type := (.object "java/util/Comparator"), accessFlags := 25, slot := 4, constantValue := 0 }, { name := "LATIN1", type := .byte, accessFlags := 24, slot := 5, constantValue := 0 }, { name := "UTF16", type := .byte, accessFlags := 24, slot := 6, constantValue := 0 }]
  methods := #[k7m0, k7m1, k7m2, k7m3, k7m4, k7m5, k7m6, k7m7]
  instanceTypes := #[(.array .byte), .byte, .int, .boolean]
  staticTypes := #[.long, .boolean, (.array (.object "java/io/ObjectStreamField")), .char, (.object "java/util/Comparator"), .byte, .byte]
  resolved := Array.replicate 1451 none
  statics := some 0 }

def pool8 : Array CpInfo := pool [(1, .methodref 2 3), (0, .class_ 4), (0, .nameAndType 5 6), (0, u "java/lang/Object"), (0, u "<init>"), (0, u "()V"), (0, .fieldref 8 9), (0, .class_ 10), (0, .nameAndType 11 12), (0, u "com/example/hebelwerk/hebelwerk/io/FixedForm"), (0, u "form"), (0, u "Ljava/lang/String;"), (0, .methodref 14 15), (0, .class_ 16), (0, .nameAndType 17 18), (0, u "java/lang/String"), (0, u "length"), (0, u "()I"), (0, .methodref 14 20), (0, .nameAndType 21 22), (0, u "charAt"), (0, u "(I)C"), (0, .methodref 8 24), (0, .nameAndType 25 26), (0, u "isCapital"), (0, u "(C)Z"), (0, u "(Ljava/lang/String;)V"), (2, u "matches"), (0, u "(Ljava/lang/String;)Z")] 5

def k8c0 : Code := { maxStack := 2, maxLocals := 2, code := prog_68_method_1_code, exceptionTable := #[], attributes := #[] }
def k8m0 : Method := { name := "<init>", desc := "(Ljava/lang/String;)V", sig := { parameters := [(.object "java/lang/String")], returnType := none }, accessFlags := 0, code := some k8c0 }
def k8c1 : Code := { maxStack := 2, maxLocals := 6, code := prog_68_method_2_code, exceptionTable := #[], attributes := #[] }
def k8m1 : Method := { name := "matches", desc := "(Ljava/lang/String;)Z", sig := { parameters := [(.object "java/lang/String")], returnType := some .boolean }, accessFlags := 0, code := some k8c1 }
def k8c2 : Code := { maxStack := 2, maxLocals := 1, code := prog_68_method_3_code, exceptionTable := #[], attributes := #[] }
def k8m2 : Method := { name := "isCapital", desc := "(C)Z", sig := { parameters := [.char], returnType := some .boolean }, accessFlags := 10, code := some k8c2 }
/-- com/example/hebelwerk/hebelwerk/io/FixedForm -/
def k8 : Class := { plain "com/example/hebelwerk/hebelwerk/io/FixedForm" (some 0) with
  accessFlags := 48
  interfaces := #[]
  cf := some (fileOf pool8 8 #[] #[{ accessFlags := 0, nameIndex := 5, descriptorIndex := 27, attributes := #[] }, { accessFlags := 0, nameIndex := 30, descriptorIndex := 31, attributes := #[] }, { accessFlags := 10, nameIndex := 25, descriptorIndex := 26, attributes := #[] }] 48 2 #[] #[{ accessFlags := 18, nameIndex := 11, descriptorIndex := 12, attributes := #[] }])
  fields := #[{ name := "form", type := (.object "java/lang/String"), accessFlags := 18, slot := 0, constantValue := 0 }]
  methods := #[k8m0, k8m1, k8m2]
  instanceTypes := #[(.object "java/lang/String")]
  staticTypes := #[]
  resolved := Array.replicate 37 none
  statics := none }

def pool9 : Array CpInfo := pool [(6, .class_ 8), (1, u "java/lang/Object"), (0, u "<init>"), (0, u "()V"), (1, .class_ 14), (1, u "java/lang/StringUTF16"), (31, u "$assertionsDisabled"), (0, u "Z"), (13, u "HI_BYTE_SHIFT"), (0, u "I"), (2, u "LO_BYTE_SHIFT"), (49, .methodref 12 116), (0, .nameAndType 117 118), (0, u "compress"), (0, u "([CI[BII)I"), (3, u "([CII)[B"), (138, u "coderFromArrayLen"), (0, u "([BI)B"), (106, .class_ 371), (1, u "java/lang/StringUTF16$LinesSpliterator"), (58, u "MAX_LENGTH"), (196, .class_ 628), (0, u "java/lang/StringUTF16$CodePointsSpliterator"), (0, .class_ 630), (0, u "java/lang/StringUTF16$CharsSpliterator")] 4

def k9m0 : Method := { name := "<init>", desc := "()V", sig := { parameters := [], returnType := none }, accessFlags := 0, code := none }
def k9c1 : Code := { maxStack := 2, maxLocals := 2, code := jdk_52_method_15_code, exceptionTable := #[], attributes := #[] }
def k9m1 : Method := { name := "coderFromArrayLen", desc := "([BI)B", sig := { parameters := [(.array .byte), .int], returnType := some .byte }, accessFlags := 8, code := some k9c1 }
def k9c2 : Code := { maxStack := 5, maxLocals := 6, code := jdk_52_method_16_code, exceptionTable := #[], attributes := #[] }
def k9m2 : Method := { name := "compress", desc := "([CII)[B", sig := { parameters := [(.array .char), .int, .int], returnType := some (.array .byte) }, accessFlags := 9, code := some k9c2 }
def k9c3 : Code := { maxStack := 3, maxLocals := 7, code := jdk_52_method_21_code, exceptionTable := #[], attributes := #[] }
def k9m3 : Method := { name := "compress", desc := "([CI[BII)I", sig := { parameters := [(.array .char), .int, (.array .byte), .int, .int], returnType := some .int }, accessFlags := 9, code := some k9c3 }
/-- java/lang/StringUTF16 -/
def k9 : Class := { plain "java/lang/StringUTF16" (some 0) with
  accessFlags := 48
  interfaces := #[]
  cf := some (fileOf pool9 12 #[.nestMembers #[627, 629, 369]] #[{ accessFlags := 0, nameIndex := 9, descriptorIndex := 10, attributes := #[] }, { accessFlags := 8, nameIndex := 261, descriptorIndex := 262, attributes := #[] }, { accessFlags := 9, nameIndex := 117, descriptorIndex := 122, attributes := #[] }, { accessFlags := 9, nameIndex := 117, descriptorIndex := 118, attributes := #[] }] 48 6 #[] #[{ accessFlags := 26, nameIndex := 61, descriptorIndex := 62, attributes := #[] }, { accessFlags := 26, nameIndex := 65, descriptorIndex := 62, attributes := #[] }, { accessFlags := 24, nameIndex := 430, descriptorIndex := 62, attributes := #[] }, { accessFlags := 4120, nameIndex := 46, descriptorIndex := 47, attributes := #[] }])
  fields := #[{ name := "HI_BYTE_SHIFT", type := .int, accessFlags := 26, slot := 0, constantValue := 0 }, { name := "LO_BYTE_SHIFT", type := .int, accessFlags := 26, slot := 1, constantValue := 0 }, { name := "MAX_LENGTH", type := .int, accessFlags := 24, slot := 2, constantValue := 0 }, { name := "$assertionsDisabled", type := .boolean, accessFlags := 4120, slot := 3, constantValue := 0 }]
  methods := #[k9m0, k9m1, k9m2, k9m3]
  instanceTypes := #[]
  staticTypes := #[.int, .int, .int, .boolean]
  resolved := Array.replicate 635 none
  statics := none }

def pool10 : Array CpInfo := pool [(1, .class_ 2), (0, u "java/lang/String"), (1, .class_ 6), (1, u "java/lang/Object"), (0, u "<init>"), (0, u "()V"), (0, .methodref 1 10), (0, .nameAndType 11 12), (0, u "checkIndex"), (0, u "(II)V"), (1, .class_ 16), (1, u "java/lang/StringLatin1"), (36, u "([BI)C"), (67, u "$assertionsDisabled"), (0, u "Z"), (98, .class_ 223), (1, u "java/lang/StringLatin1$LinesSpliterator"), (28, u "charAt"), (137, .class_ 391), (0, u "java/lang/StringLatin1$CharsSpliterator")] 3

def k10m0 : Method := { name := "<init>", desc := "()V", sig := { parameters := [], returnType := none }, accessFlags := 0, code := none }
def k10c1 : Code := { maxStack := 2, maxLocals := 2, code := jdk_43_method_2_code, exceptionTable := #[], attributes := #[] }
def k10m1 : Method := { name := "charAt", desc := "([BI)C", sig := { parameters := [(.array .byte), .int], returnType := some .char }, accessFlags := 9, code := some k10c1 }
/-- java/lang/StringLatin1 -/
def k10 : Class := { plain "java/lang/StringLatin1" (some 0) with
  accessFlags := 48
  interfaces := #[]
  cf := some (fileOf pool10 14 #[.nestMembers #[390, 221]] #[{ accessFlags := 0, nameIndex := 7, descriptorIndex := 8, attributes := #[] }, { accessFlags := 9, nameIndex := 252, descriptorIndex := 53, attributes := #[] }] 48 4 #[] #[{ accessFlags := 4120, nameIndex := 121, descriptorIndex := 122, attributes := #[] }])
  fields := #[{ name := "$assertionsDisabled", type := .boolean, accessFlags := 4120, slot := 0, constantValue := 0 }]
  methods := #[k10m0, k10m1]
  instanceTypes := #[]
  staticTypes := #[.boolean]
  resolved := Array.replicate 395 none
  statics := none }

def pool11 : Array CpInfo := pool [(2, .class_ 4), (1, u "java/lang/Object"), (0, u "<init>"), (0, u "()V"), (17, .class_ 26), (1, u "jdk/internal/util/Preconditions"), (6, u "checkIndex"), (21, .class_ 56), (0, u "jdk/internal/util/Preconditions$4"), (57, .class_ 115), (0, u "jdk/internal/util/Preconditions$1"), (7, u "SIOOBE_FORMATTER"), (0, u "Ljava/util/function/BiFunction;"), (0, .class_ 126), (0, u "jdk/internal/util/Preconditions$2"), (3, u "AIOOBE_FORMATTER"), (0, .class_ 132), (0, u "jdk/internal/util/Preconditions$3"), (3, u "IOOBE_FORMATTER"), (41, u "(IILjava/util/function/BiFunction;)I")] 15

def k11m0 : Method := { name := "<init>", desc := "()V", sig := { parameters := [], returnType := none }, accessFlags := 1, code := none }
def k11c1 : Code := { maxStack := 3, maxLocals := 3, code := jdk_41_method_11_code, exceptionTable := #[], attributes := #[] }
def k11m1 : Method := { name := "checkIndex", desc := "(IILjava/util/function/BiFunction;)I", sig := { parameters := [.int, .int, (.object "java/util/function/BiFunction")], returnType := some .int }, accessFlags := 9, code := some k11c1 }
/-- jdk/internal/util/Preconditions -/
def k11 : Class := { plain "jdk/internal/util/Preconditions" (some 0) with
  accessFlags := 33
  interfaces := #[]
  cf := some (fileOf pool11 24 #[.nestMembers #[55, 131, 125, 114]] #[{ accessFlags := 1, nameIndex := 5, descriptorIndex := 6, attributes := #[] }, { accessFlags := 9, nameIndex := 33, descriptorIndex := 178, attributes := #[] }] 33 2 #[] #[{ accessFlags := 25, nameIndex := 123, descriptorIndex := 124, attributes := #[] }, { accessFlags := 25, nameIndex := 130, descriptorIndex := 124, attributes := #[] }, { accessFlags := 25, nameIndex := 136, descriptorIndex := 124, attributes := #[] }])
  fields := #[{ name := "SIOOBE_FORMATTER", type := (.object "java/util/function/BiFunction"), accessFlags := 25, slot := 0, constantValue := 0 }, { name := "AIOOBE_FORMATTER", type := (.object "java/util/function/BiFunction"), accessFlags := 25, slot := 1, constantValue := 0 }, { name := "IOOBE_FORMATTER", type := (.object "java/util/function/BiFunction"), accessFlags := 25, slot := 2, constantValue := 0 }]
  methods := #[k11m0, k11m1]
  instanceTypes := #[]
  staticTypes := #[(.object "java/util/function/BiFunction"), (.object "java/util/function/BiFunction"), (.object "java/util/function/BiFunction")]
  resolved := Array.replicate 194 none
  statics := some 1 }

def pool12 : Array CpInfo := pool [(9, u "<init>"), (6, .class_ 18), (1, u "java/lang/Object"), (0, u "()V"), (1, .class_ 23), (1, u "jdk/internal/util/ArraysSupport"), (0, u "LOG2_ARRAY_LONG_INDEX_SCALE"), (0, u "I"), (2, u "U"), (0, u "Ljdk/internal/misc/Unsafe;"), (8, u "BIG_ENDIAN"), (0, u "Z"), (8, u "LOG2_BYTE_BIT_SIZE"), (4, u "LOG2_ARRAY_INT_INDEX_SCALE"), (54, u "JLA"), (0, u "Ljdk/internal/access/JavaLangAccess;"), (11, u "LOG2_ARRAY_BOOLEAN_INDEX_SCALE"), (9, u "LOG2_ARRAY_BYTE_INDEX_SCALE"), (5, u "LOG2_ARRAY_CHAR_INDEX_SCALE"), (5, u "LOG2_ARRAY_SHORT_INDEX_SCALE"), (18, u "LOG2_ARRAY_FLOAT_INDEX_SCALE"), (24, u "LOG2_ARRAY_DOUBLE_INDEX_SCALE"), (89, u "T_BOOLEAN"), (2, u "T_CHAR"), (1, u "T_FLOAT"), (1, u "T_DOUBLE"), (1, u "T_BYTE"), (1, u "T_SHORT"), (1, u "T_INT"), (1, u "T_LONG"), (1, u "SOFT_MAX_ARRAY_LENGTH")] 83

def k12m0 : Method := { name := "<init>", desc := "()V", sig := { parameters := [], returnType := none }, accessFlags := 2, code := none }
/-- jdk/internal/util/ArraysSupport -/
def k12 : Class := { plain "jdk/internal/util/ArraysSupport" (some 0) with
  accessFlags := 33
  interfaces := #[]
  cf := some (fileOf pool12 21 #[] #[{ accessFlags := 2, nameIndex := 9, descriptorIndex := 19, attributes := #[] }] 33 16 #[] #[{ accessFlags := 24, nameIndex := 28, descriptorIndex := 29, attributes := #[] }, { accessFlags := 26, nameIndex := 38, descriptorIndex := 39, attributes := #[] }, { accessFlags := 25, nameIndex := 121, descriptorIndex := 25, attributes := #[] }, { accessFlags := 25, nameIndex := 131, descriptorIndex := 25, attributes := #[] }, { accessFlags := 25, nameIndex := 137, descriptorIndex := 25, attributes := #[] }, { accessFlags := 25, nameIndex := 143, descriptorIndex := 25, attributes := #[] }, { accessFlags := 25, nameIndex := 53, descriptorIndex := 25, attributes := #[] }, { accessFlags := 25, nameIndex := 24, descriptorIndex := 25, attributes := #[] }, { accessFlags := 25, nameIndex := 162, descriptorIndex := 25, attributes := #[] }, { accessFlags := 25, nameIndex := 187, descriptorIndex := 25, attributes := #[] }, { accessFlags := 26, nameIndex := 48, descriptorIndex := 25, attributes := #[] }, { accessFlags := 25, nameIndex := 277, descriptorIndex := 25, attributes := #[] }, { accessFlags := 25, nameIndex := 280, descriptorIndex := 25, attributes := #[] }, { accessFlags := 25, nameIndex := 282, descriptorIndex := 25, attributes := #[] }, { accessFlags := 25, nameIndex := 284, descriptorIndex := 25, attributes := #[] }, { accessFlags := 25, nameIndex := 286, descriptorIndex := 25, attributes := #[] }, { accessFlags := 25, nameIndex := 288, descriptorIndex := 25, attributes := #[] }, { accessFlags := 25, nameIndex := 290, descriptorIndex := 25, attributes := #[] }, { accessFlags := 25, nameIndex := 292, descriptorIndex := 25, attributes := #[] }, { accessFlags := 26, nameIndex := 108, descriptorIndex := 109, attributes := #[] }, { accessFlags := 25, nameIndex := 294, descriptorIndex := 25, attributes := #[] }])
  fields := #[{ name := "U", type := (.object "jdk/internal/misc/Unsafe"), accessFlags := 24, slot := 0, constantValue := 0 }, { name := "BIG_ENDIAN", type := .boolean, accessFlags := 26, slot := 1, constantValue := 0 }, { name := "LOG2_ARRAY_BOOLEAN_INDEX_SCALE", type := .int, accessFlags := 25, slot := 2, constantValue := 0 }, { name := "LOG2_ARRAY_BYTE_INDEX_SCALE", type := .int, accessFlags := 25, slot := 3, constantValue := 0 }, { name := "LOG2_ARRAY_CHAR_INDEX_SCALE", type := .int, accessFlags := 25, slot := 4, constantValue := 0 }, { name := "LOG2_ARRAY_SHORT_INDEX_SCALE", type := .int, accessFlags := 25, slot := 5, constantValue := 0 }, { name := "LOG2_ARRAY_INT_INDEX_SCALE", type := .int, accessFlags := 25, slot := 6, constantValue := 0 }, { name := "LOG2_ARRAY_LONG_INDEX_SCALE", type := .int, accessFlags := 25, slot := 7, constantValue := 0 }, { name := "LOG2_ARRAY_FLOAT_INDEX_SCALE", type := .int, accessFlags := 25, slot := 8, constantValue := 0 }, { name := "LOG2_ARRAY_DOUBLE_INDEX_SCALE", type := .int, accessFlags := 25, slot := 9, constantValue := 0 }, { name := "LOG2_BYTE_BIT_SIZE", type := .int, accessFlags := 26, slot := 10, constantValue := 0 }, { name := "T_BOOLEAN", type := .int, accessFlags := 25, slot := 11, constantValue := 0 }, { name := "T_CHAR", type := .int, accessFlags := 25, slot := 12, constantValue := 0 }, { name := "T_FLOAT", type := .int, accessFlags := 25, slot := 13, constantValue := 0 }, { name := "T_DOUBLE", type := .int, accessFlags := 25, slot := 14, constantValue := 0 }, { name := "T_BYTE", type := .int, accessFlags := 25, slot := 15, constantValue := 0 }, { name := "T_SHORT", type := .int, accessFlags := 25, slot := 16, constantValue := 0 }, { name := "T_INT", type := .int, accessFlags := 25, slot := 17, constantValue := 0 }, { name := "T_LONG", type := .int, accessFlags := 25, slot := 18, constantValue := 0 }, { name := "JLA", type := (.object "jdk/internal/access/JavaLangAccess"), accessFlags := 26, slot := 19, constantValue := 0 }, { name := "SOFT_MAX_ARRAY_LENGTH", type := .int, accessFlags := 25, slot := 20, constantValue := 0 }]
  methods := #[k12m0]
  instanceTypes := #[]
  staticTypes := #[(.object "jdk/internal/misc/Unsafe"), .boolean, .int, .int, .int, .int, .int, .int, .int, .int, .int, .int, .int, .int, .int, .int, .int, .int, .int, (.object "jdk/internal/access/JavaLangAccess"), .int]
  resolved := Array.replicate 378 none
  statics := none }

def pool13 : Array CpInfo := pool [(1, u "java/lang/Cloneable"), (0, .class_ 1), (0, u "java/lang/Object"), (0, .class_ 3)] 3

/-- java/lang/Cloneable -/
def k13 : Class := { plain "java/lang/Cloneable" (some 0) with
  accessFlags := 1537
  interfaces := #[]
  cf := some (fileOf pool13 2 #[] #[] 1537 4 #[] #[])
  fields := #[]
  methods := #[]
  instanceTypes := #[]
  staticTypes := #[]
  resolved := Array.replicate 8 none
  statics := none }

/-- the primitive byte -/
def k14 : Class := { plain "byte" none with kind := .primitive 'B', accessFlags := 0x411 }
/-- [B -/
def k15 : Class := { plain "[B" (some 0) with kind := .array 14 .byte, interfaces := #[13, 2], accessFlags := 1041 }

/-- the primitive char -/
def k16 : Class := { plain "char" none with kind := .primitive 'C', accessFlags := 0x411 }
/-- [C -/
def k17 : Class := { plain "[C" (some 0) with kind := .array 16 .char, interfaces := #[13, 2], accessFlags := 1041 }

/-- the primitive int -/
def k18 : Class := { plain "int" none with kind := .primitive 'I', accessFlags := 0x411 }
/-- [I -/
def k19 : Class := { plain "[I" (some 0) with kind := .array 18 .int, interfaces := #[13, 2], accessFlags := 1041 }

def heap : Heap := #[{ cls := 7, slots := #[.long 0, .int 1, .null, .int 0, .null, .int 0, .int 0], vm := .statics 7 },
  { cls := 11, slots := #[.null, .null, .null], vm := .statics 11 }]
def classes : Array Class := #[k0, k1, k2, k3, k4, k5, k6, k7, k8, k9, k10, k11, k12, k13, k14, k15, k16, k17, k18, k19]
def interned : List (Array UInt16 × Addr) := []
def slotsUsed : Nat := 10
def theMethod : MethodId := ⟨1, 1⟩
def args0 : Array Value := #[.int 9, .int 65, .int 66, .int 67]
def aboutOver (below : List Frame) : State where
  vm := { classes := classes, interned := interned.toArray }
  heap := heap
  slotsUsed := slotsUsed
  threads := #[{ frames := .invoking theMethod args0 :: below }]
def below0 : List Frame := [.native { method := ⟨0, 0⟩, args := #[] }]
def about1 : State := aboutOver below0
def p0 : Program := .bare "" "" ""
def e0 : Env := launch0.env 0 0 0
theorem w_frames : about1.frames = Frame.invoking theMethod args0 :: below0 := rfl
set_option maxRecDepth 65536 in
theorem w_args : argsFit about1.vm theMethod args0 = true := by decide +kernel
set_option maxRecDepth 65536 in
theorem w_heap : heapFits about1 = true := by decide +kernel
set_option maxRecDepth 65536 in
theorem w_runnable : about1.curStatus? = some .runnable := by decide +kernel
set_option maxRecDepth 65536 in
theorem w_alone : about1.alone = true := by decide +kernel
set_option maxRecDepth 65536 in
theorem w_named : about1.methodNamed? x = some theMethod := by decide +kernel
set_option maxRecDepth 65536 in
theorem w_hears : about1.hears theMethod below0 = true := by decide +kernel
set_option maxRecDepth 65536 in
theorem w_ripe : about1.ripe theMethod args0 below0 = true := by decide +kernel
theorem w_running : about1.status = .running := rfl
set_option maxRecDepth 65536 in
theorem w_room : about1.hasRoom e0.platform room_1 = true :=
  launch0.hasRoom_least _ room_1 (by decide +kernel) (by decide +kernel) (by decide +kernel) (by decide +kernel) (by decide +kernel) (by decide +kernel)
theorem allAtoms_all (ts : List Jvm.Cond) (a : Array Jvm.Value) (st : Jvm.State) : (allAtoms ts).before a st = ts.all (fun c => c.before a st) := by
  induction ts with
  | nil => rfl
  | cons c t ih =>
    show (Jvm.Cond.and c (allAtoms t)).before a st = _
    rw [Jvm.Cond.before_and, ih, List.all_cons]
def words1 : List Jvm.Cond := Jvm.Cond.code x code maxLocals ret :: tables_1
/-- a 'code' word, met by the world's own term for the bytes: nothing is compared byte by byte -/
theorem code_word {y : MethodName} {bytes : ByteArray} {mx : Nat} {rt : Option FieldType} {a : Array Value} {s : State} {m : MethodId} {meth : Method} {c : Code} (h1 : s.methodNamed? y = some m) (h2 : s.vm.method? m = some meth) (h3 : meth.code = some c) (h4 : c.code = bytes)
    (h5 : (c.maxLocals == mx && c.exceptionTable.isEmpty && decide (c.maxStack ≤ mostOperands) && decide (meth.sig.returnType = rt) && !meth.locks && decide (parseMethodDescriptor y.desc = some meth.sig)) = true) : (Jvm.Cond.code y bytes mx rt).before a s = true := by
  simp only [Bool.and_eq_true, beq_iff_eq, Bool.not_eq_true', decide_eq_true_eq] at h5
  obtain ⟨⟨⟨⟨⟨g1, g2⟩, g3⟩, g4⟩, g5⟩, g6⟩ := h5
  simp [Cond.before, Cond.holds, Cond.value, h1, h2, h3, h4, g1, g2, g3, g4, g5, g6]
def isCode : Jvm.Cond → Bool
  | .code _ _ _ _ => true
  | _ => false
theorem all_split {L : List Jvm.Cond} {P : Jvm.Cond → Bool} (h1 : L.all (fun c => isCode c || P c) = true) (h2 : ∀ c ∈ L.filter isCode, P c = true) : L.all P = true := by
  refine List.all_eq_true.mpr fun c hc => ?_
  have h := List.all_eq_true.mp h1 c hc
  rcases Bool.eq_false_or_eq_true (isCode c) with hi | hi
  · exact h2 c (List.mem_filter.mpr ⟨hc, hi⟩)
  · simpa [hi] using h
set_option maxRecDepth 65536 in
theorem w_c0 : (Jvm.Cond.code x code maxLocals ret).before args0 about1 = true := code_word (m := ⟨1, 1⟩) (meth := k1m1) (c := k1c1) (by decide +kernel) rfl rfl rfl (by decide +kernel)
set_option maxRecDepth 65536 in
theorem w_c1 : (Jvm.Cond.code ({ cls := "com/example/hebelwerk/hebelwerk/io/FixedFormMatchesPinLaw", name := "formChar", desc := "(II)C" } : Jvm.MethodName) method_3_code (2 : Nat) (Option.some Jvm.ClassFile.FieldType.char)).before args0 about1 = true := code_word (m := ⟨1, 2⟩) (meth := k1m2) (c := k1c2) (by decide +kernel) rfl rfl rfl (by decide +kernel)
set_option maxRecDepth 65536 in
theorem w_c2 : (Jvm.Cond.code ({ cls := "com/example/hebelwerk/hebelwerk/io/FixedFormMatchesPinLaw", name := "textChar", desc := "(IIC)C" } : Jvm.MethodName) method_4_code (4 : Nat) (Option.some Jvm.ClassFile.FieldType.char)).before args0 about1 = true := code_word (m := ⟨1, 3⟩) (meth := k1m3) (c := k1c3) (by decide +kernel) rfl rfl rfl (by decide +kernel)
set_option maxRecDepth 65536 in
theorem w_c3 : (Jvm.Cond.code ({ cls := "com/example/hebelwerk/hebelwerk/io/FixedFormMatchesPinLaw", name := "make", desc := "(ICCC)Ljava/lang/String;" } : Jvm.MethodName) method_5_code (4 : Nat) (Option.some (Jvm.ClassFile.FieldType.object "java/lang/String"))).before args0 about1 = true := code_word (m := ⟨1, 4⟩) (meth := k1m4) (c := k1c4) (by decide +kernel) rfl rfl rfl (by decide +kernel)
set_option maxRecDepth 65536 in
theorem w_c4 : (Jvm.Cond.code ({ cls := "java/lang/String", name := "<init>", desc := "([C)V" } : Jvm.MethodName) jdk_42_method_3_code (2 : Nat) (Option.none : Option Jvm.ClassFile.FieldType)).before args0 about1 = true := code_word (m := ⟨7, 1⟩) (meth := k7m1) (c := k7c1) (by decide +kernel) rfl rfl rfl (by decide +kernel)
set_option maxRecDepth 65536 in
theorem w_c5 : (Jvm.Cond.code ({ cls := "java/lang/String", name := "<init>", desc := "([CIILjava/lang/Void;)V" } : Jvm.MethodName) jdk_42_method_149_code (6 : Nat) (Option.none : Option Jvm.ClassFile.FieldType)).before args0 about1 = true := code_word (m := ⟨7, 4⟩) (meth := k7m4) (c := k7c4) (by decide +kernel) rfl rfl rfl (by decide +kernel)
set_option maxRecDepth 65536 in
theorem w_c6 : (Jvm.Cond.code ({ cls := "java/lang/Object", name := "<init>", desc := "()V" } : Jvm.MethodName) object_method_1_code (1 : Nat) (Option.none : Option Jvm.ClassFile.FieldType)).before args0 about1 = true := code_word (m := ⟨0, 0⟩) (meth := k0m0) (c := k0c0) (by decide +kernel) rfl rfl rfl (by decide +kernel)
set_option maxRecDepth 65536 in
theorem w_c7 : (Jvm.Cond.code ({ cls := "com/example/hebelwerk/hebelwerk/io/FixedForm", name := "<init>", desc := "(Ljava/lang/String;)V" } : Jvm.MethodName) prog_68_method_1_code (2 : Nat) (Option.none : Option Jvm.ClassFile.FieldType)).before args0 about1 = true := code_word (m := ⟨8, 0⟩) (meth := k8m0) (c := k8c0) (by decide +kernel) rfl rfl rfl (by decide +kernel)
set_option maxRecDepth 65536 in
theorem w_c8 : (Jvm.Cond.code ({ cls := "com/example/hebelwerk/hebelwerk/io/FixedForm", name := "matches", desc := "(Ljava/lang/String;)Z" } : Jvm.MethodName) prog_68_method_2_code (6 : Nat) (Option.some Jvm.ClassFile.FieldType.boolean)).before args0 about1 = true := code_word (m := ⟨8, 1⟩) (meth := k8m1) (c := k8c1) (by decide +kernel) rfl rfl rfl (by decide +kernel)
set_option maxRecDepth 65536 in
theorem w_c9 : (Jvm.Cond.code ({ cls := "java/lang/String", name := "length", desc := "()I" } : Jvm.MethodName) jdk_42_method_54_code (1 : Nat) (Option.some Jvm.ClassFile.FieldType.int)).before args0 about1 = true := code_word (m := ⟨7, 2⟩) (meth := k7m2) (c := k7c2) (by decide +kernel) rfl rfl rfl (by decide +kernel)
set_option maxRecDepth 65536 in
theorem w_c10 : (Jvm.Cond.code ({ cls := "java/lang/String", name := "coder", desc := "()B" } : Jvm.MethodName) jdk_42_method_152_code (1 : Nat) (Option.some Jvm.ClassFile.FieldType.byte)).before args0 about1 = true := code_word (m := ⟨7, 5⟩) (meth := k7m5) (c := k7c5) (by decide +kernel) rfl rfl rfl (by decide +kernel)
set_option maxRecDepth 65536 in
theorem w_c11 : (Jvm.Cond.code ({ cls := "java/lang/StringUTF16", name := "compress", desc := "([CII)[B" } : Jvm.MethodName) jdk_52_method_16_code (6 : Nat) (Option.some (Jvm.ClassFile.FieldType.array Jvm.ClassFile.FieldType.byte))).before args0 about1 = true := code_word (m := ⟨9, 2⟩) (meth := k9m2) (c := k9c2) (by decide +kernel) rfl rfl rfl (by decide +kernel)
set_option maxRecDepth 65536 in
theorem w_c12 : (Jvm.Cond.code ({ cls := "java/lang/StringUTF16", name := "compress", desc := "([CI[BII)I" } : Jvm.MethodName) jdk_52_method_21_code (7 : Nat) (Option.some Jvm.ClassFile.FieldType.int)).before args0 about1 = true := code_word (m := ⟨9, 3⟩) (meth := k9m3) (c := k9c3) (by decide +kernel) rfl rfl rfl (by decide +kernel)
set_option maxRecDepth 65536 in
theorem w_c13 : (Jvm.Cond.code ({ cls := "java/lang/StringUTF16", name := "coderFromArrayLen", desc := "([BI)B" } : Jvm.MethodName) jdk_52_method_15_code (2 : Nat) (Option.some Jvm.ClassFile.FieldType.byte)).before args0 about1 = true := code_word (m := ⟨9, 1⟩) (meth := k9m1) (c := k9c1) (by decide +kernel) rfl rfl rfl (by decide +kernel)
set_option maxRecDepth 65536 in
theorem w_c14 : (Jvm.Cond.code ({ cls := "com/example/hebelwerk/hebelwerk/io/FixedFormMatchesPinLaw", name := "fits", desc := "(CC)Z" } : Jvm.MethodName) method_6_code (2 : Nat) (Option.some Jvm.ClassFile.FieldType.boolean)).before args0 about1 = true := code_word (m := ⟨1, 5⟩) (meth := k1m5) (c := k1c5) (by decide +kernel) rfl rfl rfl (by decide +kernel)
set_option maxRecDepth 65536 in
theorem w_c15 : (Jvm.Cond.code ({ cls := "java/lang/String", name := "charAt", desc := "(I)C" } : Jvm.MethodName) jdk_42_method_56_code (2 : Nat) (Option.some Jvm.ClassFile.FieldType.char)).before args0 about1 = true := code_word (m := ⟨7, 3⟩) (meth := k7m3) (c := k7c3) (by decide +kernel) rfl rfl rfl (by decide +kernel)
set_option maxRecDepth 65536 in
theorem w_c16 : (Jvm.Cond.code ({ cls := "java/lang/String", name := "isLatin1", desc := "()Z" } : Jvm.MethodName) jdk_42_method_154_code (1 : Nat) (Option.some Jvm.ClassFile.FieldType.boolean)).before args0 about1 = true := code_word (m := ⟨7, 6⟩) (meth := k7m6) (c := k7c6) (by decide +kernel) rfl rfl rfl (by decide +kernel)
set_option maxRecDepth 65536 in
theorem w_c17 : (Jvm.Cond.code ({ cls := "java/lang/StringLatin1", name := "charAt", desc := "([BI)C" } : Jvm.MethodName) jdk_43_method_2_code (2 : Nat) (Option.some Jvm.ClassFile.FieldType.char)).before args0 about1 = true := code_word (m := ⟨10, 1⟩) (meth := k10m1) (c := k10c1) (by decide +kernel) rfl rfl rfl (by decide +kernel)
set_option maxRecDepth 65536 in
theorem w_c18 : (Jvm.Cond.code ({ cls := "java/lang/String", name := "checkIndex", desc := "(II)V" } : Jvm.MethodName) jdk_42_method_155_code (2 : Nat) (Option.none : Option Jvm.ClassFile.FieldType)).before args0 about1 = true := code_word (m := ⟨7, 7⟩) (meth := k7m7) (c := k7c7) (by decide +kernel) rfl rfl rfl (by decide +kernel)
set_option maxRecDepth 65536 in
theorem w_c19 : (Jvm.Cond.code ({ cls := "jdk/internal/util/Preconditions", name := "checkIndex", desc := "(IILjava/util/function/BiFunction;)I" } : Jvm.MethodName) jdk_41_method_11_code (3 : Nat) (Option.some Jvm.ClassFile.FieldType.int)).before args0 about1 = true := code_word (m := ⟨11, 1⟩) (meth := k11m1) (c := k11c1) (by decide +kernel) rfl rfl rfl (by decide +kernel)
set_option maxRecDepth 65536 in
theorem w_c20 : (Jvm.Cond.code ({ cls := "com/example/hebelwerk/hebelwerk/io/FixedForm", name := "isCapital", desc := "(C)Z" } : Jvm.MethodName) prog_68_method_3_code (1 : Nat) (Option.some Jvm.ClassFile.FieldType.boolean)).before args0 about1 = true := code_word (m := ⟨8, 2⟩) (meth := k8m2) (c := k8c2) (by decide +kernel) rfl rfl rfl (by decide +kernel)
def codes1 : List Jvm.Cond := [Jvm.Cond.code x code maxLocals ret, Jvm.Cond.code ({ cls := "com/example/hebelwerk/hebelwerk/io/FixedFormMatchesPinLaw", name := "formChar", desc := "(II)C" } : Jvm.MethodName) method_3_code (2 : Nat) (Option.some Jvm.ClassFile.FieldType.char), Jvm.Cond.code ({ cls := "com/example/hebelwerk/hebelwerk/io/FixedFormMatchesPinLaw", name := "textChar", desc := "(IIC)C" } : Jvm.MethodName) method_4_code (4 : Nat) (Option.some Jvm.ClassFile.FieldType.char), Jvm.Cond.code ({ cls := "com/example/hebelwerk/hebelwerk/io/FixedFormMatchesPinLaw", name := "make", desc := "(ICCC)Ljava/lang/String;" } : Jvm.MethodName) method_5_code (4 : Nat) (Option.some (Jvm.ClassFile.FieldType.object "java/lang/String")), Jvm.Cond.code ({ cls := "java/lang/String", name := "<init>", desc := "([C)V" } : Jvm.MethodName) jdk_42_method_3_code (2 : Nat) (Option.none : Option Jvm.ClassFile.FieldType), Jvm.Cond.code ({ cls := "java/lang/String", name := "<init>", desc := "([CIILjava/lang/Void;)V" } : Jvm.MethodName) jdk_42_method_149_code (6 : Nat) (Option.none : Option Jvm.ClassFile.FieldType), Jvm.Cond.code ({ cls := "java/lang/Object", name := "<init>", desc := "()V" } : Jvm.MethodName) object_method_1_code (1 : Nat) (Option.none : Option Jvm.ClassFile.FieldType), Jvm.Cond.code ({ cls := "com/example/hebelwerk/hebelwerk/io/FixedForm", name := "<init>", desc := "(Ljava/lang/String;)V" } : Jvm.MethodName) prog_68_method_1_code (2 : Nat) (Option.none : Option Jvm.ClassFile.FieldType), Jvm.Cond.code ({ cls := "com/example/hebelwerk/hebelwerk/io/FixedForm", name := "matches", desc := "(Ljava/lang/String;)Z" } : Jvm.MethodName) prog_68_method_2_code (6 : Nat) (Option.some Jvm.ClassFile.FieldType.boolean), Jvm.Cond.code ({ cls := "java/lang/String", name := "length", desc := "()I" } : Jvm.MethodName) jdk_42_method_54_code (1 : Nat) (Option.some Jvm.ClassFile.FieldType.int), Jvm.Cond.code ({ cls := "java/lang/String", name := "coder", desc := "()B" } : Jvm.MethodName) jdk_42_method_152_code (1 : Nat) (Option.some Jvm.ClassFile.FieldType.byte), Jvm.Cond.code ({ cls := "java/lang/StringUTF16", name := "compress", desc := "([CII)[B" } : Jvm.MethodName) jdk_52_method_16_code (6 : Nat) (Option.some (Jvm.ClassFile.FieldType.array Jvm.ClassFile.FieldType.byte)), Jvm.Cond.code ({ cls := "java/lang/StringUTF16", name := "compress", desc := "([CI[BII)I" } : Jvm.MethodName) jdk_52_method_21_code (7 : Nat) (Option.some Jvm.ClassFile.FieldType.int), Jvm.Cond.code ({ cls := "java/lang/StringUTF16", name := "coderFromArrayLen", desc := "([BI)B" } : Jvm.MethodName) jdk_52_method_15_code (2 : Nat) (Option.some Jvm.ClassFile.FieldType.byte), Jvm.Cond.code ({ cls := "com/example/hebelwerk/hebelwerk/io/FixedFormMatchesPinLaw", name := "fits", desc := "(CC)Z" } : Jvm.MethodName) method_6_code (2 : Nat) (Option.some Jvm.ClassFile.FieldType.boolean), Jvm.Cond.code ({ cls := "java/lang/String", name := "charAt", desc := "(I)C" } : Jvm.MethodName) jdk_42_method_56_code (2 : Nat) (Option.some Jvm.ClassFile.FieldType.char), Jvm.Cond.code ({ cls := "java/lang/String", name := "isLatin1", desc := "()Z" } : Jvm.MethodName) jdk_42_method_154_code (1 : Nat) (Option.some Jvm.ClassFile.FieldType.boolean), Jvm.Cond.code ({ cls := "java/lang/StringLatin1", name := "charAt", desc := "([BI)C" } : Jvm.MethodName) jdk_43_method_2_code (2 : Nat) (Option.some Jvm.ClassFile.FieldType.char), Jvm.Cond.code ({ cls := "java/lang/String", name := "checkIndex", desc := "(II)V" } : Jvm.MethodName) jdk_42_method_155_code (2 : Nat) (Option.none : Option Jvm.ClassFile.FieldType), Jvm.Cond.code ({ cls := "jdk/internal/util/Preconditions", name := "checkIndex", desc := "(IILjava/util/function/BiFunction;)I" } : Jvm.MethodName) jdk_41_method_11_code (3 : Nat) (Option.some Jvm.ClassFile.FieldType.int), Jvm.Cond.code ({ cls := "com/example/hebelwerk/hebelwerk/io/FixedForm", name := "isCapital", desc := "(C)Z" } : Jvm.MethodName) prog_68_method_3_code (1 : Nat) (Option.some Jvm.ClassFile.FieldType.boolean)]
set_option maxRecDepth 65536 in
theorem codes_eq : words1.filter isCode = codes1 := rfl
theorem w_codes : ∀ c ∈ words1.filter isCode, c.before args0 about1 = true := by
  rw [codes_eq]
  intro c hc
  simp only [codes1, List.mem_cons, List.not_mem_nil, or_false] at hc
  rcases hc with rfl | rfl | rfl | rfl | rfl | rfl | rfl | rfl | rfl | rfl | rfl | rfl | rfl | rfl | rfl | rfl | rfl | rfl | rfl | rfl | rfl
  · exact w_c0
  · exact w_c1
  · exact w_c2
  · exact w_c3
  · exact w_c4
  · exact w_c5
  · exact w_c6
  · exact w_c7
  · exact w_c8
  · exact w_c9
  · exact w_c10
  · exact w_c11
  · exact w_c12
  · exact w_c13
  · exact w_c14
  · exact w_c15
  · exact w_c16
  · exact w_c17
  · exact w_c18
  · exact w_c19
  · exact w_c20
set_option maxRecDepth 65536 in
theorem w_t1 : (words1.take 24).all (fun c => isCode c || c.before args0 about1) = true := by decide +kernel
set_option maxRecDepth 65536 in
theorem w_t2 : ((words1.drop 24).take 24).all (fun c => isCode c || c.before args0 about1) = true := by decide +kernel
set_option maxRecDepth 65536 in
theorem w_t3 : (((words1.drop 24).drop 24).take 24).all (fun c => isCode c || c.before args0 about1) = true := by decide +kernel
set_option maxRecDepth 65536 in
theorem w_t4 : (((words1.drop 24).drop 24).drop 24).all (fun c => isCode c || c.before args0 about1) = true := by decide +kernel
theorem w_tables : (allAtoms (Jvm.Cond.code x code maxLocals ret :: tables_1)).before args0 about1 = true := by
  rw [allAtoms_all]
  show words1.all (fun c => c.before args0 about1) = true
  refine all_split ?_ w_codes
  rw [← List.take_append_drop 24 words1, List.all_append, w_t1, ← List.take_append_drop 24 (words1.drop 24), List.all_append, w_t2, ← List.take_append_drop 24 ((words1.drop 24).drop 24), List.all_append, w_t3, w_t4]
  rfl
set_option maxRecDepth 65536 in
theorem w_rest : rest_1_c.before args0 about1 = true := by decide +kernel
set_option maxRecDepth 65536 in
theorem w_case : (Jvm.Cond.and given_1 narrow_1).before args0 about1 = true := by decide +kernel
set_option maxRecDepth 65536 in
theorem w_consts : constsHeld consts_1 about1 := Jvm.Lit.constsHeldB_iff.mp (by decide +kernel)
theorem w_applies : (headSpec (Jvm.Cond.code x code maxLocals ret :: tables_1) room_1).applies x e0.platform about1 = true :=
  (Spec.applies_iff w_frames).mpr ⟨w_running, w_runnable, w_alone, w_named, w_hears, w_ripe, w_room, w_tables⟩
theorem atStart : AtStart classFile x code maxLocals ret World_1 tables_1 room_1 Calls_1 rest_1 Pre_1 launch0 p0 e0 about1 theMethod args0 below0 :=
  ⟨lists_1, trivial, launch0.admits_env _ _ _, launch0.least_env, fairChoices_fair.cas, fairChoices_fair.clock, w_frames, w_args, w_heap, w_applies, ⟨w_consts, trivial⟩, w_rest, w_case⟩
end start1
theorem witness_1 : WitnessClaimed_1 := ⟨start1.p0, start1.e0, start1.about1, start1.theMethod, start1.args0, start1.below0, start1.atStart⟩
end Jvm.Pilot.@@N@@
