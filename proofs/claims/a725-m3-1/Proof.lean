import JvmDerived
import JvmDerived.Pilot.@@N@@Statement
import JvmDerived.Pilot.@@N@@Code
set_option linter.unusedVariables false
set_option linter.unusedSimpArgs false
namespace Jvm.Pilot.@@N@@
open Jvm Jvm.ClassFile Sem Op Lib Jvm.Free Jvm.Stand Jvm.LawKit Jvm.RoadKit Bundle Jvm.Pilot.@@N@@.Jvm.D
/-! A walk by continuations: own_Go says that from here the body runs to an end that P allows. -/
def own_Go (p : Program) (e : Env) (below : List Frame) (P : Outcome → State → Prop) (T : State) (g : JFrame) : Prop :=
  ∃ s₂ o, Steps p.tables e below (T.setTop g) s₂ ∧ s₂.status = .running ∧ Ended s₂ below o ∧ P o s₂
abbrev own_End (s : State) (Q : Option Value → Heap → List Loc → Prop) (C S : Nat) : Outcome → State → Prop := fun o s₂ => ∃ v L, o = .returned v ∧ Q v s₂.heap L ∧ FrameEnd s o s₂ L C S
section Own
variable {p : Program} {l : Launch} {e : Env} {R : Room} {s : State} {m : MethodId} {args : Array Value} {below : List Frame} {meth : Method} {c : Code} {T T' : State} {locs : List Loc} {cells slots : Nat} {P : Outcome → State → Prop} {g g' : JFrame} {Q : Option Value → Heap → List Loc → Prop} {C S : Nat}
theorem own_st (h : ∀ t, Steps p.tables e below (T'.setTop g') t → Steps p.tables e below (T.setTop g) t) (k : own_Go p e below P T' g') : own_Go p e below P T g := by
  obtain ⟨s₂, o, h1, r⟩ := k
  exact ⟨s₂, o, h _ h1, r⟩
theorem own_entry (q : g = g') (k : own_Go p e below P T g') : ∃ s₂ o, Steps p.tables e below (T.setTop g) s₂ ∧ s₂.status = .running ∧ Ended s₂ below o ∧ P o s₂ := by
  subst q
  exact k
theorem own_join {α : Type} {F : α → Prop} {g' : α → JFrame} {T' : State} (k : ∀ b, F b → own_Go p e below P T' (g' b)) (j : (∀ b, F b → own_Go p e below P T' (g' b)) → own_Go p e below P T g) : own_Go p e below P T g := j k
theorem own_leave (X : Stand p l e R s m args below meth c T locs cells slots) (hlk : meth.locks = false) {v : Option Value} (hv : meth.sig.returnType = none → v = none)
    (k : ∀ fs, (∀ (f : JFrame) (acts : List Action), f.method = m → f.locked = none → f.entered = [] → (doReturn e (T.setTop f) acts v).1 = T.setFrames fs) → Steps p.tables e below (T.setTop g) (T.setFrames fs))
    (hQ : Q v T.heap locs) (hC : cells ≤ C) (hS : slots ≤ S) : own_Go p e below (own_End s Q C S) T g := by
  obtain ⟨fs, hr, hrun, hended, hW, hsame⟩ := X.leave hv hlk
  exact ⟨_, _, k fs hr, hrun, hended, _, _, rfl, hQ, ⟨_, rfl⟩, hW, hsame.mono hC hS⟩
theorem own_retN (X : Stand p l e R s m args below meth c T locs cells slots) (hx : p.tables.exec = Jvm.exec) (hlk : meth.locks = false) {pc : Nat} {Ls : Array Slot} {z : Int32} {t : FieldType} {rest : List Value} (hret : meth.sig.returnType = some t) (ht : t = .boolean ∨ t = .byte ∨ t = .char ∨ t = .short)
    (hd : decode c.code pc = .ok (.ireturn, 1)) (hQ : Q (some (.int (nar t z))) T.heap locs) (hC : cells ≤ C) (hS : slots ≤ S) : own_Go p e below (own_End s Q C S) T (mkF m pc Ls (.int z :: rest)) :=
  own_leave X hlk (fun h => by rw [hret] at h; cases h) (fun fs hr => retN X hx hret ht hd hr) hQ hC hS
theorem own_retI (X : Stand p l e R s m args below meth c T locs cells slots) (hx : p.tables.exec = Jvm.exec) (hlk : meth.locks = false) {pc : Nat} {Ls : Array Slot} {z : Int32} {rest : List Value} (hret : meth.sig.returnType = some .int)
    (hd : decode c.code pc = .ok (.ireturn, 1)) (hQ : Q (some (.int z)) T.heap locs) (hC : cells ≤ C) (hS : slots ≤ S) : own_Go p e below (own_End s Q C S) T (mkF m pc Ls (.int z :: rest)) :=
  own_leave X hlk (fun h => by rw [hret] at h; cases h) (fun fs hr => retOut X hx hret rfl (Or.inl ⟨rfl, Or.inl rfl, z, rfl⟩) hd hr) hQ hC hS
theorem own_retJ (X : Stand p l e R s m args below meth c T locs cells slots) (hx : p.tables.exec = Jvm.exec) (hlk : meth.locks = false) {pc : Nat} {Ls : Array Slot} {z : Int64} {rest : List Value} (hret : meth.sig.returnType = some .long)
    (hd : decode c.code pc = .ok (.lreturn, 1)) (hQ : Q (some (.long z)) T.heap locs) (hC : cells ≤ C) (hS : slots ≤ S) : own_Go p e below (own_End s Q C S) T (mkF m pc Ls (.long z :: rest)) :=
  own_leave X hlk (fun h => by rw [hret] at h; cases h) (fun fs hr => retOut X hx hret rfl (Or.inr (Or.inl ⟨rfl, rfl, z, rfl⟩)) hd hr) hQ hC hS
theorem own_narrow_ref {t : FieldType} {w : Value} (ht : t.isReference = true) : narrow t w = w := by cases t <;> first | rfl | cases ht
theorem own_retA (X : Stand p l e R s m args below meth c T locs cells slots) (hx : p.tables.exec = Jvm.exec) (hlk : meth.locks = false) {pc : Nat} {Ls : Array Slot} {w : Value} {t : FieldType} {rest : List Value} (hret : meth.sig.returnType = some t) (ht : t.isReference = true) (hw : w.isRef = true)
    (hd : decode c.code pc = .ok (.areturn, 1)) (hQ : Q (some w) T.heap locs) (hC : cells ≤ C) (hS : slots ≤ S) : own_Go p e below (own_End s Q C S) T (mkF m pc Ls (w :: rest)) :=
  own_leave X hlk (fun h => by rw [hret] at h; cases h) (fun fs hr => retOut X hx hret (own_narrow_ref ht) (Or.inr (Or.inr (Or.inr (Or.inr ⟨rfl, ht, hw⟩)))) hd hr) hQ hC hS
theorem own_ret0 (X : Stand p l e R s m args below meth c T locs cells slots) (hx : p.tables.exec = Jvm.exec) (hlk : meth.locks = false) {pc : Nat} {Ls : Array Slot} (hret : meth.sig.returnType = none)
    (hd : decode c.code pc = .ok (.return_, 1)) (hQ : Q none T.heap locs) (hC : cells ≤ C) (hS : slots ≤ S) : own_Go p e below (own_End s Q C S) T (mkF m pc Ls []) :=
  own_leave X hlk (fun _ => rfl) (fun fs hr => X.returnOut hx hret hd hr) hQ hC hS
theorem own_callS (X : Stand p l e R s m args below meth c T locs cells slots) (hx : p.tables.exec = Jvm.exec) {own : String} {index : Nat} {y : MethodName} {bytes : ByteArray} {maxL : Nat} {ret : Option FieldType}
    (hown : s.vm.findClass own = some m.cls) (hlink : (Cond.methodLink own index y).before args s = true) (hstat : (Cond.static y).before args s = true) (hinit : (Cond.initialized y.cls).before args s = true)
    (hcode : (Cond.code y bytes maxL ret).before args s = true) (hy : y.cls ≠ "java/lang/invoke/MethodHandle" ∧ y.cls ≠ "java/lang/invoke/VarHandle")
    {W rc rs : Nat} {as' : Array Value} {h : Heap} {Qc : Option Value → Heap → List Loc → Prop}
    (hK : Back l R p e below s args y 3 W (fun A a => a = as' ∧ A.U.heap = h ∧ A.cells + rc ≤ R.cells ∧ A.slots + rs ≤ R.slots) (fun A _ v B => ∃ L, Qc v B.U.heap L ∧ B.locs = A.locs ++ L ∧ B.cells = A.cells + rc ∧ B.slots = A.slots + rs))
    (hg : g.method = m) (hsize : g.locals.size = c.maxLocals) {argsL rest : List Value} (hlen : ∀ sig, parseMethodDescriptor y.desc = some sig → argsL.length = sig.parameters.length)
    (hstack : g.stack = argsL.reverse ++ rest) (hW : 2 * g.monitorRoom + (rest.map fun v => v.category).sum ≤ W) (hdg : decode c.code g.pc = .ok (.invokestatic index, 3))
    (ha : argsL.toArray = as') (eT : T.heap = h) (hc : cells + rc ≤ R.cells) (hs : slots + rs ≤ R.slots)
    (k : ∀ v T' L, Stand p l e R s m args below meth c T' (locs ++ L) (cells + rc) (slots + rs) → Qc v T'.heap L → own_Go p e below P T' { g with pc := g.pc + 3, stack := v.toList ++ rest }) : own_Go p e below P T g := by
  obtain ⟨v, vm₁, ⟨T', L', k', n'⟩, -, X', ⟨L, hQ, l1, y1, z1⟩, st⟩ := Jvm.LawKit.callS X hx hown hlink hstat hinit hcode hy hK hg hsize hlen hstack hW hdg (fun _ _ => ⟨ha, eT, hc, hs⟩)
  dsimp only [Pt.U, Pt.locs, Pt.cells, Pt.slots] at X' l1 y1 z1 st hQ
  subst l1 y1 z1
  exact own_st st (k v T' L X' hQ)
theorem own_callN (X : Stand p l e R s m args below meth c T locs cells slots) (hx : p.tables.exec = Jvm.exec) {own : String} {index : Nat} {y : MethodName} {bytes : ByteArray} {maxL : Nat} (hy1 : y.name = "<init>")
    (hown : s.vm.findClass own = some m.cls) (hlink : (Cond.methodLink own index y).before args s = true) (hinst : (Cond.instanceMethod y).before args s = true)
    (hcode : (Cond.code y bytes maxL none).before args s = true) (hy : y.cls ≠ "java/lang/invoke/MethodHandle" ∧ y.cls ≠ "java/lang/invoke/VarHandle")
    {W rc rs : Nat} {as' : Array Value} {h : Heap} {Qc : Option Value → Heap → List Loc → Prop}
    (hK : Back l R p e below s args y 3 W (fun A a => a = as' ∧ A.U.heap = h ∧ A.cells + rc ≤ R.cells ∧ A.slots + rs ≤ R.slots) (fun A _ v B => ∃ L, Qc v B.U.heap L ∧ B.locs = A.locs ++ L ∧ B.cells = A.cells + rc ∧ B.slots = A.slots + rs))
    {a : Addr} (hg : g.method = m) (hsize : g.locals.size = c.maxLocals) {argsL rest : List Value} (hlen : ∀ sig, parseMethodDescriptor y.desc = some sig → argsL.length = sig.parameters.length)
    (hstack : g.stack = argsL.reverse ++ .ref a :: rest) (hW : 2 * g.monitorRoom + (rest.map fun v => v.category).sum ≤ W) (hdg : decode c.code g.pc = .ok (.invokespecial index, 3))
    (ha : (Value.ref a :: argsL).toArray = as') (eT : T.heap = h) (hc : cells + rc ≤ R.cells) (hs : slots + rs ≤ R.slots)
    (k : ∀ v T' L, Stand p l e R s m args below meth c T' (locs ++ L) (cells + rc) (slots + rs) → Qc v T'.heap L → own_Go p e below P T' { g with pc := g.pc + 3, stack := v.toList ++ rest }) : own_Go p e below P T g := by
  obtain ⟨v, vm₁, ⟨T', L', k', n'⟩, -, X', ⟨L, hQ, l1, y1, z1⟩, st⟩ := X.specialBack hx hy1 hown hlink hinst hcode hy hK hg hsize (Steps.refl _) hlen hstack hW hdg (fun _ _ => ⟨ha, eT, hc, hs⟩)
  dsimp only [Pt.U, Pt.locs, Pt.cells, Pt.slots] at X' l1 y1 z1 st hQ
  subst l1 y1 z1
  exact own_st (fun t k => st.trans k) (k v T' L X' hQ)
theorem own_callV (X : Stand p l e R s m args below meth c T locs cells slots) (hx : p.tables.exec = Jvm.exec) {own Cn : String} {index : Nat} {y z : MethodName}
    (hown : s.vm.findClass own = some m.cls) (hlink : (Cond.methodLink own index y).before args s = true) (hdecl : (Cond.declares y).before args s = true) (hnf : NotFace s y)
    (hsel : (Cond.selects Cn y z).before args s = true) (hinst : (Cond.instanceMethod z).before args s = true)
    (hy : y.cls ≠ "java/lang/invoke/MethodHandle" ∧ y.cls ≠ "java/lang/invoke/VarHandle")
    {W rc rs : Nat} {as' : Array Value} {h : Heap} {Qc : Option Value → Heap → List Loc → Prop}
    (hK : Back l R p e below s args z 3 W (fun A a => a = as' ∧ A.U.heap = h ∧ A.cells + rc ≤ R.cells ∧ A.slots + rs ≤ R.slots) (fun A _ v B => ∃ L, Qc v B.U.heap L ∧ B.locs = A.locs ++ L ∧ B.cells = A.cells + rc ∧ B.slots = A.slots + rs))
    {a : Addr} {cB : ClassId} (hcB : s.vm.findClass Cn = some cB) (hrecv : IsOf cB T a)
    (hg : g.method = m) (hsize : g.locals.size = c.maxLocals) {argsL rest : List Value} (hlen : ∀ sig, parseMethodDescriptor y.desc = some sig → argsL.length = sig.parameters.length)
    (hstack : g.stack = argsL.reverse ++ .ref a :: rest) (hW : 2 * g.monitorRoom + (rest.map fun v => v.category).sum ≤ W) (hdg : decode c.code g.pc = .ok (.invokevirtual index, 3))
    (ha : (Value.ref a :: argsL).toArray = as') (eT : T.heap = h) (hc : cells + rc ≤ R.cells) (hs : slots + rs ≤ R.slots)
    (k : ∀ v T' L, Stand p l e R s m args below meth c T' (locs ++ L) (cells + rc) (slots + rs) → Qc v T'.heap L → own_Go p e below P T' { g with pc := g.pc + 3, stack := v.toList ++ rest }) : own_Go p e below P T g := by
  obtain ⟨v, vm₁, ⟨T', L', k', n'⟩, -, X', ⟨L, hQ, l1, y1, z1⟩, st⟩ := X.virtualBack hx hown hlink hdecl hnf hsel hinst hy hK hcB hrecv hg hsize (Steps.refl _) hlen hstack hW hdg (fun _ _ => ⟨ha, eT, hc, hs⟩)
  dsimp only [Pt.U, Pt.locs, Pt.cells, Pt.slots] at X' l1 y1 z1 st hQ
  subst l1 y1 z1
  exact own_st (fun t k => st.trans k) (k v T' L X' hQ)
theorem own_callI (X : Stand p l e R s m args below meth c T locs cells slots) (hx : p.tables.exec = Jvm.exec) {own Cn : String} {index count : Nat} {xi y : MethodName}
    (hown : s.vm.findClass own = some m.cls) (hlink : (Cond.methodLink own index xi).before args s = true) (hdecl : (Cond.declares xi).before args s = true)
    (hface : (Cond.interfaceMethod xi.cls xi.cls xi.name xi.desc).before args s = true) (hsel : (Cond.selects Cn xi y).before args s = true) (hinst : (Cond.instanceMethod y).before args s = true)
    (hpub : (Cond.publicMethod y).before args s = true) (hunh : (Cond.unhidden Cn xi.name xi.desc).before args s = true) (hcast : (Cond.castable Cn xi.cls).before args s = true)
    (hy : xi.cls ≠ "java/lang/invoke/MethodHandle" ∧ xi.cls ≠ "java/lang/invoke/VarHandle")
    {W rc rs : Nat} {as' : Array Value} {h : Heap} {Qc : Option Value → Heap → List Loc → Prop}
    (hK : Back l R p e below s args y 5 W (fun A a => a = as' ∧ A.U.heap = h ∧ A.cells + rc ≤ R.cells ∧ A.slots + rs ≤ R.slots) (fun A _ v B => ∃ L, Qc v B.U.heap L ∧ B.locs = A.locs ++ L ∧ B.cells = A.cells + rc ∧ B.slots = A.slots + rs))
    {a : Addr} {cB : ClassId} {kB : Class} (hcB : s.vm.findClass Cn = some cB) (hkB : s.vm.classes[cB]? = some kB) (hrecv : IsOf cB T a)
    (hg : g.method = m) (hsize : g.locals.size = c.maxLocals) {argsL rest : List Value} (hlen : ∀ sig, parseMethodDescriptor xi.desc = some sig → argsL.length = sig.parameters.length)
    (hstack : g.stack = argsL.reverse ++ .ref a :: rest) (hW : 2 * g.monitorRoom + (rest.map fun v => v.category).sum ≤ W) (hdg : decode c.code g.pc = .ok (.invokeinterface index count, 5))
    (ha : (Value.ref a :: argsL).toArray = as') (eT : T.heap = h) (hc : cells + rc ≤ R.cells) (hs : slots + rs ≤ R.slots)
    (k : ∀ v T' L, Stand p l e R s m args below meth c T' (locs ++ L) (cells + rc) (slots + rs) → Qc v T'.heap L → own_Go p e below P T' { g with pc := g.pc + 5, stack := v.toList ++ rest }) : own_Go p e below P T g := by
  obtain ⟨v, vm₁, ⟨T', L', k', n'⟩, -, X', ⟨L, hQ, l1, y1, z1⟩, st⟩ := X.interfaceBack hx hown hlink hdecl hface hsel hinst hpub hunh hcast hy hK hcB hkB hrecv hg hsize (Steps.refl _) hlen hstack hW hdg (fun _ _ => ⟨ha, eT, hc, hs⟩)
  dsimp only [Pt.U, Pt.locs, Pt.cells, Pt.slots] at X' l1 y1 z1 st hQ
  subst l1 y1 z1
  exact own_st (fun t k => st.trans k) (k v T' L X' hQ)
theorem own_callP (X : Stand p l e R s m args below meth c T locs cells slots) (hx : p.tables.exec = Jvm.exec) {own : String} {index : Nat} {y : MethodName} {bytes : ByteArray} {maxL : Nat} {ret : Option FieldType}
    (hown : s.vm.findClass own = some m.cls) (hlink : (Cond.methodLink own index y).before args s = true) (hinst : (Cond.instanceMethod y).before args s = true) (hsel : (Cond.selects y.cls y y).before args s = true)
    (hpriv : s.PrivateAt y) (hcode : (Cond.code y bytes maxL ret).before args s = true) (hy : y.cls ≠ "java/lang/invoke/MethodHandle" ∧ y.cls ≠ "java/lang/invoke/VarHandle")
    {W rc rs : Nat} {as' : Array Value} {h : Heap} {Qc : Option Value → Heap → List Loc → Prop}
    (hK : Back l R p e below s args y 3 W (fun A a => a = as' ∧ A.U.heap = h ∧ A.cells + rc ≤ R.cells ∧ A.slots + rs ≤ R.slots) (fun A _ v B => ∃ L, Qc v B.U.heap L ∧ B.locs = A.locs ++ L ∧ B.cells = A.cells + rc ∧ B.slots = A.slots + rs))
    {a : Addr} {cell : Cell} (hcell : T.heap[a]? = some cell) (hobj : ∀ q, cell.vm ≠ .statics q)
    (hg : g.method = m) (hsize : g.locals.size = c.maxLocals) {argsL rest : List Value} (hlen : ∀ sig, parseMethodDescriptor y.desc = some sig → argsL.length = sig.parameters.length)
    (hstack : g.stack = argsL.reverse ++ .ref a :: rest) (hW : 2 * g.monitorRoom + (rest.map fun v => v.category).sum ≤ W) (hdg : decode c.code g.pc = .ok (.invokevirtual index, 3))
    (ha : (Value.ref a :: argsL).toArray = as') (eT : T.heap = h) (hc : cells + rc ≤ R.cells) (hs : slots + rs ≤ R.slots)
    (k : ∀ v T' L, Stand p l e R s m args below meth c T' (locs ++ L) (cells + rc) (slots + rs) → Qc v T'.heap L → own_Go p e below P T' { g with pc := g.pc + 3, stack := v.toList ++ rest }) : own_Go p e below P T g := by
  obtain ⟨v, vm₁, ⟨T', L', k', n'⟩, -, X', ⟨L, hQ, l1, y1, z1⟩, st⟩ := X.privateBack hx hown hlink hinst hsel hpriv hcode hy hK hg hsize (Steps.refl _) hcell hobj hlen hstack hW hdg (fun _ _ => ⟨ha, eT, hc, hs⟩)
  dsimp only [Pt.U, Pt.locs, Pt.cells, Pt.slots] at X' l1 y1 z1 st hQ
  subst l1 y1 z1
  exact own_st (fun t k => st.trans k) (k v T' L X' hQ)
end Own
section OwnWords
variable {args : Array Value} {s : State} {t u : Term} {x y : Addr} {C n d : String} {z : Int32}
theorem own_feqR (h : (Cond.eq (Term.field t C n d) u).value args s none s [] = some true) (ht : t.eval args s none [] s = some (.ref x)) (hu : u.eval args s none [] s = some (.ref y)) : s.fieldOf? x C n d = some (.ref y) := by
  obtain ⟨x', y', h1, h2, k1, k2⟩ := cmp_v (Or.inl h)
  cases hu.symm.trans h2
  have hr : x'.isRef = true := k2.2
  have := gotT (eq_R h1 h2 hr rfl) h
  rw [← fld_at ht (idx := []) (first := s) (o := none) (args := args), h1, this]
theorem own_feqI (h : (Cond.eq (Term.field t C n d) (.int z)).value args s none s [] = some true) (ht : t.eval args s none [] s = some (.ref x)) : s.fieldOf? x C n d = some (.int z) := by
  obtain ⟨x', y', h1, h2, k1, k2⟩ := cmp_v (Or.inl h)
  cases (Term.int_eval z).symm.trans h2
  obtain ⟨z', rfl⟩ := k2
  have : z' = z := by simpa [Cond.value, h1, Term.int_eval] using h
  rw [← fld_at ht (idx := []) (first := s) (o := none) (args := args), h1, this]
end OwnWords

def QI (r : Int32) (h0 : Heap) (n0 : Nat) (v : Option Value) (h : Heap) (L : List Loc) : Prop := v = some (.int r) ∧ Fr n0 L ∧ h = h0
theorem d1_0 : decode prog_100_method_7_code 0 = .ok (.aload_n 0, 1) := by decide +kernel
theorem d1_1 : decode prog_100_method_7_code 1 = .ok (.getfield 41, 3) := by decide +kernel
theorem d1_4 : decode prog_100_method_7_code 4 = .ok (.getstatic 68, 3) := by decide +kernel
theorem d1_7 : decode prog_100_method_7_code 7 = .ok (.if_acmp .ne 7, 3) := by decide +kernel
theorem d1_10 : decode prog_100_method_7_code 10 = .ok (.iconst 1, 1) := by decide +kernel
theorem d1_11 : decode prog_100_method_7_code 11 = .ok (.goto 4, 3) := by decide +kernel
theorem d1_15 : decode prog_100_method_7_code 15 = .ok (.ireturn, 1) := by decide +kernel
theorem d1_14 : decode prog_100_method_7_code 14 = .ok (.iconst 0, 1) := by decide +kernel
theorem pn_0 : plainName "com/example/kapu/kapu/service/ExtendedDecision" = true := by first | (simp [plainName, overriddenIn]; done) | decide +kernel
theorem ef_rmI (m : MethodId) (x0 : Addr) : entryFrame m #[(.ref x0)] 1 = mkF m 0 #[.val (.ref x0)] [] := by first | (simp [entryFrame, mkF, argsToLocals, Value.category]; done) | rfl
set_option maxRecDepth 65536 in
set_option maxHeartbeats 40000000 in
theorem rmI (l : Launch) (Z : State) (a0 : Array Value) (hw : ∀ d ∈ tables_1, d.before a0 Z = true) (ws : List Jvm.Cond) (a1 w2 w4 : Addr) (r : Int32) (h0 : Heap) (n0 : Nat) (Z0 : n0 ≤ h0.size) (Fd : Fld Z h0 a1 "com/example/kapu/kapu/service/ExtendedDecision" "decision" "Lcom/example/kapu/kapu/model/Decision;" (.ref w2)) (Sd : Sta Z h0 "com/example/kapu/kapu/model/Decision" "INDETERMINATE" "Lcom/example/kapu/kapu/model/Decision;" (.ref w4)) (hr : r = if w2 = w4 then 1 else 0) :
    MetFree l (⟨"com/example/kapu/kapu/service/ExtendedDecision", "isIndeterminate", "()Z"⟩ : MethodName) (head1 (Jvm.Cond.code (⟨"com/example/kapu/kapu/service/ExtendedDecision", "isIndeterminate", "()Z"⟩ : MethodName) prog_100_method_7_code 1 (some .boolean) :: ws) ({ frames := 0, cells := 0, slots := 0, locals := 0 } : Room)) (fun a_ U_ => a_ = #[(.ref a1)] ∧ Z.Warmed39 U_.vm ∧ U_.heap = h0) (fun _ _ _ _ _ => True) (fun _ U_ o_ U'_ => ∃ v_ L_, o_ = .returned v_ ∧ QI r h0 n0 v_ U'_.heap L_ ∧ FrameEnd U_ o_ U'_ L_ ({ frames := 0, cells := 0, slots := 0, locals := 0 } : Room).cells ({ frames := 0, cells := 0, slots := 0, locals := 0 } : Room).slots) := by
  refine MetFree.of_bodySF (plainFor_of_name pn_0) hisR ?_
  intro p e s m args below meth c s₁ Bd hml0 hP hK
  obtain ⟨rfl, hZ, hh⟩ := hP
  have hx := Bd.exec
  have hby := Bd.bytes
  have hml : c.maxLocals = 1 := hml0
  have hown : s.vm.findClass "com/example/kapu/kapu/service/ExtendedDecision" = some m.cls := findClass_of_methodNamed Bd.named
  have hnm := (name_of_methodNamed Bd.named Bd.method).1
  have hlk := BodyLoose.notSynchronized Bd
  have X0 : Stand p l e ({ frames := 0, cells := 0, slots := 0, locals := 0 } : Room) s m #[(.ref a1)] below meth c s₁ [] 0 0 := Stand.of_body Bd
  have e0 : s₁.heap = h0 := by rw [← hh, Bd.state]; rfl
  have N0 := Fr.nil n0
  refine own_entry (P := own_End s (QI r h0 n0) ({ frames := 0, cells := 0, slots := 0, locals := 0 } : Room).cells ({ frames := 0, cells := 0, slots := 0, locals := 0 } : Room).slots) (ef_rmI m a1) ?_
  show own_Go p e below _ s₁ (mkF m 0 #[.val (.ref a1)] [])
  refine own_st (fun t_ k_ => XS.aloadN X0.here hx rfl (hb hby d1_0) rfl rfl k_) ?_
  show own_Go p e below _ s₁ (mkF m 1 #[.val (.ref a1)] [(.ref a1)])
  obtain ⟨T1, X1, e1, st1⟩ := getF X0 hx hZ hown (host := "") (Or.inl (hw _ (List.mem_of_getElem? (i := 13) rfl))) Via.refl e0 Fd (g := (mkF m 1 #[.val (.ref a1)] [(.ref a1)])) rfl rfl (hb hby d1_1)
  refine own_st st1 ?_
  show own_Go p e below _ T1 (mkF m 4 #[.val (.ref a1)] [(.ref w2)])
  obtain ⟨T2, X2, e2, st2⟩ := getS2 X1 hx hZ hown (host := "") (Or.inl (hw _ (List.mem_of_getElem? (i := 17) rfl))) Via.refl e1 Sd (g := (mkF m 4 #[.val (.ref a1)] [(.ref w2)])) rfl (hb hby d1_4)
  refine own_st st2 ?_
  show own_Go p e below _ T2 (mkF m 7 #[.val (.ref a1)] [(.ref w4), (.ref w2)])
  by_cases hs : w2 = w4
  · refine own_st (fun t_ k_ => Jvm.RoadKit.acmp (g := (mkF m 7 #[.val (.ref a1)] [(.ref w4), (.ref w2)])) X2 hx rfl rfl rfl (pc0 := 7) (pc' := 10) (same := true) rfl (hb hby d1_7) rfl (decide_eq_true (congrArg Value.ref hs)) (by decide) (by decide) k_) ?_
    show own_Go p e below _ T2 (mkF m 10 #[.val (.ref a1)] [])
    refine own_st (fun t_ k_ => XS.iconst X2.here hx rfl (hb hby d1_10) k_) ?_
    show own_Go p e below _ T2 (mkF m 11 #[.val (.ref a1)] [(.int (1 : Int32))])
    refine own_st (fun t_ k_ => XS.goto X2.here hx rfl (pc0 := 11) (pc' := 15) rfl (hb hby d1_11) (by decide) (by decide) k_) ?_
    show own_Go p e below _ T2 (mkF m 15 #[.val (.ref a1)] [(.int (1 : Int32))])
    refine own_retN X2 hx hlk (t := .boolean) Bd.returns (by simp) (hb hby d1_15) ?_ (by decide) (by decide)
    show QI r h0 n0 _ T2.heap _
    rw [e2]
    exact ⟨by rw [hr, if_pos hs]; rfl, N0, rfl⟩
  · refine own_st (fun t_ k_ => Jvm.RoadKit.acmp (g := (mkF m 7 #[.val (.ref a1)] [(.ref w4), (.ref w2)])) X2 hx rfl rfl rfl (pc0 := 7) (pc' := 14) (same := false) rfl (hb hby d1_7) rfl (decide_eq_false fun q => hs (Value.ref.inj q)) (by decide) (by decide) k_) ?_
    show own_Go p e below _ T2 (mkF m 14 #[.val (.ref a1)] [])
    refine own_st (fun t_ k_ => XS.iconst X2.here hx rfl (hb hby d1_14) k_) ?_
    show own_Go p e below _ T2 (mkF m 15 #[.val (.ref a1)] [(.int (0 : Int32))])
    refine own_retN X2 hx hlk (t := .boolean) Bd.returns (by simp) (hb hby d1_15) ?_ (by decide) (by decide)
    show QI r h0 n0 _ T2.heap _
    rw [e2]
    exact ⟨by rw [hr, if_neg hs]; rfl, N0, rfl⟩
def QP (a : Addr) (h0 : Heap) (n0 : Nat) (v : Option Value) (h : Heap) (L : List Loc) : Prop := v = some (.ref a) ∧ Fr n0 L ∧ h = h0
theorem d2_0 : decode method_2_code 0 = .ok (.iload_n 0, 1) := by decide +kernel
theorem d2_1 : decode method_2_code 1 = .ok (.ifCond .ne 7, 3) := by decide +kernel
theorem d2_4 : decode method_2_code 4 = .ok (.getstatic 7, 3) := by decide +kernel
theorem d2_7 : decode method_2_code 7 = .ok (.areturn, 1) := by decide +kernel
theorem d2_8 : decode method_2_code 8 = .ok (.iload_n 0, 1) := by decide +kernel
theorem d2_9 : decode method_2_code 9 = .ok (.iconst 1, 1) := by decide +kernel
theorem d2_10 : decode method_2_code 10 = .ok (.if_icmp .ne 7, 3) := by decide +kernel
theorem d2_13 : decode method_2_code 13 = .ok (.getstatic 13, 3) := by decide +kernel
theorem d2_16 : decode method_2_code 16 = .ok (.areturn, 1) := by decide +kernel
theorem d2_17 : decode method_2_code 17 = .ok (.iload_n 0, 1) := by decide +kernel
theorem d2_18 : decode method_2_code 18 = .ok (.iconst 2, 1) := by decide +kernel
theorem d2_19 : decode method_2_code 19 = .ok (.if_icmp .ne 7, 3) := by decide +kernel
theorem d2_22 : decode method_2_code 22 = .ok (.getstatic 16, 3) := by decide +kernel
theorem d2_25 : decode method_2_code 25 = .ok (.areturn, 1) := by decide +kernel
theorem d2_26 : decode method_2_code 26 = .ok (.iload_n 0, 1) := by decide +kernel
theorem d2_27 : decode method_2_code 27 = .ok (.iconst 3, 1) := by decide +kernel
theorem d2_28 : decode method_2_code 28 = .ok (.if_icmp .ne 7, 3) := by decide +kernel
theorem d2_31 : decode method_2_code 31 = .ok (.getstatic 19, 3) := by decide +kernel
theorem d2_34 : decode method_2_code 34 = .ok (.areturn, 1) := by decide +kernel
theorem d2_35 : decode method_2_code 35 = .ok (.iload_n 0, 1) := by decide +kernel
theorem d2_36 : decode method_2_code 36 = .ok (.iconst 4, 1) := by decide +kernel
theorem d2_37 : decode method_2_code 37 = .ok (.if_icmp .ne 7, 3) := by decide +kernel
theorem d2_40 : decode method_2_code 40 = .ok (.getstatic 22, 3) := by decide +kernel
theorem d2_43 : decode method_2_code 43 = .ok (.areturn, 1) := by decide +kernel
theorem d2_44 : decode method_2_code 44 = .ok (.getstatic 25, 3) := by decide +kernel
theorem d2_47 : decode method_2_code 47 = .ok (.areturn, 1) := by decide +kernel
theorem pn_1 : plainName "com/example/kapu/kapu/service/ExtendedDecisionIsIndeterminatePinLaw" = true := by first | (simp [plainName, overriddenIn]; done) | decide +kernel
theorem ef_rmP (m : MethodId) (x0 : Int32) : entryFrame m #[(.int x0)] 1 = mkF m 0 #[.val (.int x0)] [] := by first | (simp [entryFrame, mkF, argsToLocals, Value.category]; done) | rfl
set_option maxRecDepth 65536 in
set_option maxHeartbeats 40000000 in
theorem rmP (l : Launch) (Z : State) (a0 : Array Value) (hw : ∀ d ∈ tables_1, d.before a0 Z = true) (ws : List Jvm.Cond) (i : Int32) (u0 u1 u2 u3 u4 u5 : Addr) (a : Addr) (h0 : Heap) (n0 : Nat) (Z0 : n0 ≤ h0.size) (S0 : Sta Z h0 "com/example/kapu/kapu/service/ExtendedDecision" "PERMIT" "Lcom/example/kapu/kapu/service/ExtendedDecision;" (.ref u0)) (S1 : Sta Z h0 "com/example/kapu/kapu/service/ExtendedDecision" "DENY" "Lcom/example/kapu/kapu/service/ExtendedDecision;" (.ref u1)) (S2 : Sta Z h0 "com/example/kapu/kapu/service/ExtendedDecision" "NOT_APPLICABLE" "Lcom/example/kapu/kapu/service/ExtendedDecision;" (.ref u2)) (S3 : Sta Z h0 "com/example/kapu/kapu/service/ExtendedDecision" "INDETERMINATE_D" "Lcom/example/kapu/kapu/service/ExtendedDecision;" (.ref u3)) (S4 : Sta Z h0 "com/example/kapu/kapu/service/ExtendedDecision" "INDETERMINATE_P" "Lcom/example/kapu/kapu/service/ExtendedDecision;" (.ref u4)) (S5 : Sta Z h0 "com/example/kapu/kapu/service/ExtendedDecision" "INDETERMINATE_DP" "Lcom/example/kapu/kapu/service/ExtendedDecision;" (.ref u5)) (ha : a = if i = 0 then u0 else if i = 1 then u1 else if i = 2 then u2 else if i = 3 then u3 else if i = 4 then u4 else u5) :
    MetFree l (⟨"com/example/kapu/kapu/service/ExtendedDecisionIsIndeterminatePinLaw", "pick", "(I)Lcom/example/kapu/kapu/service/ExtendedDecision;"⟩ : MethodName) (head1 (Jvm.Cond.code (⟨"com/example/kapu/kapu/service/ExtendedDecisionIsIndeterminatePinLaw", "pick", "(I)Lcom/example/kapu/kapu/service/ExtendedDecision;"⟩ : MethodName) method_2_code 1 (some (.object "com/example/kapu/kapu/service/ExtendedDecision")) :: ws) ({ frames := 0, cells := 0, slots := 0, locals := 0 } : Room)) (fun a_ U_ => a_ = #[(.int i)] ∧ Z.Warmed39 U_.vm ∧ U_.heap = h0) (fun _ _ _ _ _ => True) (fun _ U_ o_ U'_ => ∃ v_ L_, o_ = .returned v_ ∧ QP a h0 n0 v_ U'_.heap L_ ∧ FrameEnd U_ o_ U'_ L_ ({ frames := 0, cells := 0, slots := 0, locals := 0 } : Room).cells ({ frames := 0, cells := 0, slots := 0, locals := 0 } : Room).slots) := by
  refine MetFree.of_bodySF (plainFor_of_name pn_1) hisR ?_
  intro p e s m args below meth c s₁ Bd hml0 hP hK
  obtain ⟨rfl, hZ, hh⟩ := hP
  have hx := Bd.exec
  have hby := Bd.bytes
  have hml : c.maxLocals = 1 := hml0
  have hown : s.vm.findClass "com/example/kapu/kapu/service/ExtendedDecisionIsIndeterminatePinLaw" = some m.cls := findClass_of_methodNamed Bd.named
  have hnm := (name_of_methodNamed Bd.named Bd.method).1
  have hlk := BodyLoose.notSynchronized Bd
  have X0 : Stand p l e ({ frames := 0, cells := 0, slots := 0, locals := 0 } : Room) s m #[(.int i)] below meth c s₁ [] 0 0 := Stand.of_body Bd
  have e0 : s₁.heap = h0 := by rw [← hh, Bd.state]; rfl
  have N0 := Fr.nil n0
  refine own_entry (P := own_End s (QP a h0 n0) ({ frames := 0, cells := 0, slots := 0, locals := 0 } : Room).cells ({ frames := 0, cells := 0, slots := 0, locals := 0 } : Room).slots) (ef_rmP m i) ?_
  show own_Go p e below _ s₁ (mkF m 0 #[.val (.int i)] [])
  refine own_st (fun t_ k_ => XS.iloadN X0.here hx rfl (hb hby d2_0) rfl k_) ?_
  show own_Go p e below _ s₁ (mkF m 1 #[.val (.int i)] [(.int i)])
  by_cases hi0 : i = (0 : Int32)
  · refine own_st (fun t_ k_ => XS.ifNo X0.here hx rfl (hb hby d2_1) rfl ((if0 _ _).trans (teq hi0).2) k_) ?_
    show own_Go p e below _ s₁ (mkF m 4 #[.val (.int i)] [])
    obtain ⟨T1, X1, e1, st1⟩ := getS2 X0 hx hZ hown (host := "") (Or.inl (hw _ (List.mem_of_getElem? (i := 5) rfl))) Via.refl e0 S0 (g := (mkF m 4 #[.val (.int i)] [])) rfl (hb hby d2_4)
    refine own_st st1 ?_
    show own_Go p e below _ T1 (mkF m 7 #[.val (.int i)] [(.ref u0)])
    refine own_retA X1 hx hlk Bd.returns rfl rfl (hb hby d2_7) ?_ (by decide) (by decide)
    show QP a h0 n0 _ T1.heap _
    rw [e1]
    exact ⟨by rw [ha, if_pos hi0], N0, rfl⟩
  · refine own_st (fun t_ k_ => XS.ifYes X0.here hx rfl (pc0 := 1) (pc' := 8) rfl (hb hby d2_1) rfl ((if0 _ _).trans (feq hi0).2) (by decide) (by decide) k_) ?_
    show own_Go p e below _ s₁ (mkF m 8 #[.val (.int i)] [])
    refine own_st (fun t_ k_ => XS.iloadN X0.here hx rfl (hb hby d2_8) rfl k_) ?_
    show own_Go p e below _ s₁ (mkF m 9 #[.val (.int i)] [(.int i)])
    refine own_st (fun t_ k_ => XS.iconst X0.here hx rfl (hb hby d2_9) k_) ?_
    show own_Go p e below _ s₁ (mkF m 10 #[.val (.int i)] [(.int (1 : Int32)), (.int i)])
    by_cases hi1 : i = (1 : Int32)
    · refine own_st (fun t_ k_ => XS.icmpNo X0.here hx rfl (hb hby d2_10) rfl (teq hi1).2 k_) ?_
      show own_Go p e below _ s₁ (mkF m 13 #[.val (.int i)] [])
      obtain ⟨T2, X2, e2, st2⟩ := getS2 X0 hx hZ hown (host := "") (Or.inl (hw _ (List.mem_of_getElem? (i := 24) rfl))) Via.refl e0 S1 (g := (mkF m 13 #[.val (.int i)] [])) rfl (hb hby d2_13)
      refine own_st st2 ?_
      show own_Go p e below _ T2 (mkF m 16 #[.val (.int i)] [(.ref u1)])
      refine own_retA X2 hx hlk Bd.returns rfl rfl (hb hby d2_16) ?_ (by decide) (by decide)
      show QP a h0 n0 _ T2.heap _
      rw [e2]
      exact ⟨by rw [ha, if_neg hi0, if_pos hi1], N0, rfl⟩
    · refine own_st (fun t_ k_ => XS.icmpYes X0.here hx rfl (pc0 := 10) (pc' := 17) rfl (hb hby d2_10) rfl (feq hi1).2 (by decide) (by decide) k_) ?_
      show own_Go p e below _ s₁ (mkF m 17 #[.val (.int i)] [])
      refine own_st (fun t_ k_ => XS.iloadN X0.here hx rfl (hb hby d2_17) rfl k_) ?_
      show own_Go p e below _ s₁ (mkF m 18 #[.val (.int i)] [(.int i)])
      refine own_st (fun t_ k_ => XS.iconst X0.here hx rfl (hb hby d2_18) k_) ?_
      show own_Go p e below _ s₁ (mkF m 19 #[.val (.int i)] [(.int (2 : Int32)), (.int i)])
      by_cases hi2 : i = (2 : Int32)
      · refine own_st (fun t_ k_ => XS.icmpNo X0.here hx rfl (hb hby d2_19) rfl (teq hi2).2 k_) ?_
        show own_Go p e below _ s₁ (mkF m 22 #[.val (.int i)] [])
        obtain ⟨T3, X3, e3, st3⟩ := getS2 X0 hx hZ hown (host := "") (Or.inl (hw _ (List.mem_of_getElem? (i := 21) rfl))) Via.refl e0 S2 (g := (mkF m 22 #[.val (.int i)] [])) rfl (hb hby d2_22)
        refine own_st st3 ?_
        show own_Go p e below _ T3 (mkF m 25 #[.val (.int i)] [(.ref u2)])
        refine own_retA X3 hx hlk Bd.returns rfl rfl (hb hby d2_25) ?_ (by decide) (by decide)
        show QP a h0 n0 _ T3.heap _
        rw [e3]
        exact ⟨by rw [ha, if_neg hi0, if_neg hi1, if_pos hi2], N0, rfl⟩
      · refine own_st (fun t_ k_ => XS.icmpYes X0.here hx rfl (pc0 := 19) (pc' := 26) rfl (hb hby d2_19) rfl (feq hi2).2 (by decide) (by decide) k_) ?_
        show own_Go p e below _ s₁ (mkF m 26 #[.val (.int i)] [])
        refine own_st (fun t_ k_ => XS.iloadN X0.here hx rfl (hb hby d2_26) rfl k_) ?_
        show own_Go p e below _ s₁ (mkF m 27 #[.val (.int i)] [(.int i)])
        refine own_st (fun t_ k_ => XS.iconst X0.here hx rfl (hb hby d2_27) k_) ?_
        show own_Go p e below _ s₁ (mkF m 28 #[.val (.int i)] [(.int (3 : Int32)), (.int i)])
        by_cases hi3 : i = (3 : Int32)
        · refine own_st (fun t_ k_ => XS.icmpNo X0.here hx rfl (hb hby d2_28) rfl (teq hi3).2 k_) ?_
          show own_Go p e below _ s₁ (mkF m 31 #[.val (.int i)] [])
          obtain ⟨T4, X4, e4, st4⟩ := getS2 X0 hx hZ hown (host := "") (Or.inl (hw _ (List.mem_of_getElem? (i := 19) rfl))) Via.refl e0 S3 (g := (mkF m 31 #[.val (.int i)] [])) rfl (hb hby d2_31)
          refine own_st st4 ?_
          show own_Go p e below _ T4 (mkF m 34 #[.val (.int i)] [(.ref u3)])
          refine own_retA X4 hx hlk Bd.returns rfl rfl (hb hby d2_34) ?_ (by decide) (by decide)
          show QP a h0 n0 _ T4.heap _
          rw [e4]
          exact ⟨by rw [ha, if_neg hi0, if_neg hi1, if_neg hi2, if_pos hi3], N0, rfl⟩
        · refine own_st (fun t_ k_ => XS.icmpYes X0.here hx rfl (pc0 := 28) (pc' := 35) rfl (hb hby d2_28) rfl (feq hi3).2 (by decide) (by decide) k_) ?_
          show own_Go p e below _ s₁ (mkF m 35 #[.val (.int i)] [])
          refine own_st (fun t_ k_ => XS.iloadN X0.here hx rfl (hb hby d2_35) rfl k_) ?_
          show own_Go p e below _ s₁ (mkF m 36 #[.val (.int i)] [(.int i)])
          refine own_st (fun t_ k_ => XS.iconst X0.here hx rfl (hb hby d2_36) k_) ?_
          show own_Go p e below _ s₁ (mkF m 37 #[.val (.int i)] [(.int (4 : Int32)), (.int i)])
          by_cases hi4 : i = (4 : Int32)
          · refine own_st (fun t_ k_ => XS.icmpNo X0.here hx rfl (hb hby d2_37) rfl (teq hi4).2 k_) ?_
            show own_Go p e below _ s₁ (mkF m 40 #[.val (.int i)] [])
            obtain ⟨T5, X5, e5, st5⟩ := getS2 X0 hx hZ hown (host := "") (Or.inl (hw _ (List.mem_of_getElem? (i := 29) rfl))) Via.refl e0 S4 (g := (mkF m 40 #[.val (.int i)] [])) rfl (hb hby d2_40)
            refine own_st st5 ?_
            show own_Go p e below _ T5 (mkF m 43 #[.val (.int i)] [(.ref u4)])
            refine own_retA X5 hx hlk Bd.returns rfl rfl (hb hby d2_43) ?_ (by decide) (by decide)
            show QP a h0 n0 _ T5.heap _
            rw [e5]
            exact ⟨by rw [ha, if_neg hi0, if_neg hi1, if_neg hi2, if_neg hi3, if_pos hi4], N0, rfl⟩
          · refine own_st (fun t_ k_ => XS.icmpYes X0.here hx rfl (pc0 := 37) (pc' := 44) rfl (hb hby d2_37) rfl (feq hi4).2 (by decide) (by decide) k_) ?_
            show own_Go p e below _ s₁ (mkF m 44 #[.val (.int i)] [])
            obtain ⟨T6, X6, e6, st6⟩ := getS2 X0 hx hZ hown (host := "") (Or.inl (hw _ (List.mem_of_getElem? (i := 27) rfl))) Via.refl e0 S5 (g := (mkF m 44 #[.val (.int i)] [])) rfl (hb hby d2_44)
            refine own_st st6 ?_
            show own_Go p e below _ T6 (mkF m 47 #[.val (.int i)] [(.ref u5)])
            refine own_retA X6 hx hlk Bd.returns rfl rfl (hb hby d2_47) ?_ (by decide) (by decide)
            show QP a h0 n0 _ T6.heap _
            rw [e6]
            exact ⟨by rw [ha, if_neg hi0, if_neg hi1, if_neg hi2, if_neg hi3, if_neg hi4], N0, rfl⟩
def Q0 (n0 : Nat) (v : Option Value) (h : Heap) (L : List Loc) : Prop := v = some (.int 1) ∧ Fr n0 L
theorem own_six (k : Int32) : (k &&& (2147483647 : Int32)) % (6 : Int32) = 0 ∨ (k &&& (2147483647 : Int32)) % (6 : Int32) = 1 ∨ (k &&& (2147483647 : Int32)) % (6 : Int32) = 2 ∨ (k &&& (2147483647 : Int32)) % (6 : Int32) = 3 ∨ (k &&& (2147483647 : Int32)) % (6 : Int32) = 4 ∨ (k &&& (2147483647 : Int32)) % (6 : Int32) = 5 := by
  have h1 := c_and k (2147483647 : Int32) (by decide)
  have h2 := (c_irem (k &&& (2147483647 : Int32)) 6 6 rfl).1 h1.1
  have h3 : ((k &&& (2147483647 : Int32)) % 6).toInt = 0 ∨ ((k &&& (2147483647 : Int32)) % 6).toInt = 1 ∨ ((k &&& (2147483647 : Int32)) % 6).toInt = 2 ∨ ((k &&& (2147483647 : Int32)) % 6).toInt = 3 ∨ ((k &&& (2147483647 : Int32)) % 6).toInt = 4 ∨ ((k &&& (2147483647 : Int32)) % 6).toInt = 5 := by omega
  simp only [← Int32.toInt_inj]
  exact h3
theorem pd_0 : parseMethodDescriptor "(I)Lcom/example/kapu/kapu/service/ExtendedDecision;" = some ⟨[.int], some (.object "com/example/kapu/kapu/service/ExtendedDecision")⟩ := by decide +kernel
theorem pd_1 : parseMethodDescriptor "()Z" = some ⟨[], some .boolean⟩ := by decide +kernel
theorem ef_rm0 (m : MethodId) (x0 : Int32) : entryFrame m #[(.int x0)] maxLocals = mkF m 0 #[.val (.int x0), .unset, .unset, .unset] [] := by first | (simp [entryFrame, mkF, argsToLocals, Value.category, maxLocals]; done) | rfl
set_option maxRecDepth 65536 in
set_option maxHeartbeats 40000000 in
theorem rm0 (l : Launch) (Z : State) (a0 : Array Value) (hw : ∀ d ∈ tables_1, d.before a0 Z = true) (ws : List Jvm.Cond) (k : Int32) (u0 u1 u2 u3 u4 u5 dP dD dN dI : Addr) (h0 : Heap) (n0 : Nat) (Z0 : n0 ≤ h0.size) (S0 : Sta Z h0 "com/example/kapu/kapu/service/ExtendedDecision" "PERMIT" "Lcom/example/kapu/kapu/service/ExtendedDecision;" (.ref u0)) (S1 : Sta Z h0 "com/example/kapu/kapu/service/ExtendedDecision" "DENY" "Lcom/example/kapu/kapu/service/ExtendedDecision;" (.ref u1)) (S2 : Sta Z h0 "com/example/kapu/kapu/service/ExtendedDecision" "NOT_APPLICABLE" "Lcom/example/kapu/kapu/service/ExtendedDecision;" (.ref u2)) (S3 : Sta Z h0 "com/example/kapu/kapu/service/ExtendedDecision" "INDETERMINATE_D" "Lcom/example/kapu/kapu/service/ExtendedDecision;" (.ref u3)) (S4 : Sta Z h0 "com/example/kapu/kapu/service/ExtendedDecision" "INDETERMINATE_P" "Lcom/example/kapu/kapu/service/ExtendedDecision;" (.ref u4)) (S5 : Sta Z h0 "com/example/kapu/kapu/service/ExtendedDecision" "INDETERMINATE_DP" "Lcom/example/kapu/kapu/service/ExtendedDecision;" (.ref u5)) (SI : Sta Z h0 "com/example/kapu/kapu/model/Decision" "INDETERMINATE" "Lcom/example/kapu/kapu/model/Decision;" (.ref dI)) (F0 : Fld Z h0 u0 "com/example/kapu/kapu/service/ExtendedDecision" "decision" "Lcom/example/kapu/kapu/model/Decision;" (.ref dP)) (F1 : Fld Z h0 u1 "com/example/kapu/kapu/service/ExtendedDecision" "decision" "Lcom/example/kapu/kapu/model/Decision;" (.ref dD)) (F2 : Fld Z h0 u2 "com/example/kapu/kapu/service/ExtendedDecision" "decision" "Lcom/example/kapu/kapu/model/Decision;" (.ref dN)) (F3 : Fld Z h0 u3 "com/example/kapu/kapu/service/ExtendedDecision" "decision" "Lcom/example/kapu/kapu/model/Decision;" (.ref dI)) (F4 : Fld Z h0 u4 "com/example/kapu/kapu/service/ExtendedDecision" "decision" "Lcom/example/kapu/kapu/model/Decision;" (.ref dI)) (F5 : Fld Z h0 u5 "com/example/kapu/kapu/service/ExtendedDecision" "decision" "Lcom/example/kapu/kapu/model/Decision;" (.ref dI)) (E0 : Exa Z h0 u0 "com/example/kapu/kapu/service/ExtendedDecision") (E1 : Exa Z h0 u1 "com/example/kapu/kapu/service/ExtendedDecision") (E2 : Exa Z h0 u2 "com/example/kapu/kapu/service/ExtendedDecision") (E3 : Exa Z h0 u3 "com/example/kapu/kapu/service/ExtendedDecision") (E4 : Exa Z h0 u4 "com/example/kapu/kapu/service/ExtendedDecision") (E5 : Exa Z h0 u5 "com/example/kapu/kapu/service/ExtendedDecision") (ne0 : dP ≠ dI) (ne1 : dD ≠ dI) (ne2 : dN ≠ dI) :
    MetFree l x (head1 (Jvm.Cond.code x code maxLocals ret :: ws) room_1) (fun a_ U_ => a_ = #[(.int k)] ∧ Z.Warmed39 U_.vm ∧ U_.heap = h0) (fun _ _ _ _ _ => True) (fun _ U_ o_ U'_ => ∃ v_ L_, o_ = .returned v_ ∧ Q0 n0 v_ U'_.heap L_ ∧ FrameEnd U_ o_ U'_ L_ 0 0) := by
  refine MetFree.of_bodySF (plainFor_of_name pn_1) hisR ?_
  intro p e s m args below meth c s₁ Bd hml0 hP hK
  obtain ⟨rfl, hZ, hh⟩ := hP
  have hx := Bd.exec
  have hby := Bd.bytes
  have hml : c.maxLocals = 4 := hml0
  have hown : s.vm.findClass "com/example/kapu/kapu/service/ExtendedDecisionIsIndeterminatePinLaw" = some m.cls := findClass_of_methodNamed Bd.named
  have hnm := (name_of_methodNamed Bd.named Bd.method).1
  have hlk := BodyLoose.notSynchronized Bd
  have X0 : Stand p l e room_1 s m #[(.int k)] below meth c s₁ [] 0 0 := Stand.of_body Bd
  have e0 : s₁.heap = h0 := by rw [← hh, Bd.state]; rfl
  have N0 := Fr.nil n0
  refine own_entry (P := own_End s (Q0 n0) 0 0) (ef_rm0 m k) ?_
  show own_Go p e below _ s₁ (mkF m 0 #[.val (.int k), .unset, .unset, .unset] [])
  refine own_st (fun t_ k_ => XS.iloadN X0.here hx rfl (hb hby at_0) rfl k_) ?_
  show own_Go p e below _ s₁ (mkF m 1 #[.val (.int k), .unset, .unset, .unset] [(.int k)])
  refine own_st (fun t_ k_ => X0.ldcI hx hown (mvT hZ (hw _ (List.mem_of_getElem? (i := 0) rfl))) rfl (hb hby at_1) k_) ?_
  show own_Go p e below _ s₁ (mkF m 3 #[.val (.int k), .unset, .unset, .unset] [(.int (2147483647 : Int32)), (.int k)])
  refine own_st (fun t_ k_ => XS.iand X0.here hx rfl (hb hby at_3) rfl k_) ?_
  show own_Go p e below _ s₁ (mkF m 4 #[.val (.int k), .unset, .unset, .unset] [(.int (k &&& (2147483647 : Int32)))])
  refine own_st (fun t_ k_ => XS.bipush X0.here hx rfl (hb hby at_4) k_) ?_
  show own_Go p e below _ s₁ (mkF m 6 #[.val (.int k), .unset, .unset, .unset] [(.int (6 : Int32)), (.int (k &&& (2147483647 : Int32)))])
  refine own_st (fun t_ k_ => Jvm.RoadKit.iremM (g := (mkF m 6 #[.val (.int k), .unset, .unset, .unset] [(.int (6 : Int32)), (.int (k &&& (2147483647 : Int32)))])) X0 hx rfl (hb hby at_6) rfl (by decide) k_) ?_
  show own_Go p e below _ s₁ (mkF m 7 #[.val (.int k), .unset, .unset, .unset] [(.int ((k &&& (2147483647 : Int32)) % (6 : Int32)))])
  generalize h_i : ((k &&& (2147483647 : Int32)) % (6 : Int32)) = i
  show own_Go p e below _ s₁ (mkF m 7 #[.val (.int k), .unset, .unset, .unset] [(.int i)])
  rcases (h_i ▸ own_six k : i = (0 : Int32) ∨ i = (1 : Int32) ∨ i = (2 : Int32) ∨ i = (3 : Int32) ∨ i = (4 : Int32) ∨ i = (5 : Int32)) with rfl | rfl | rfl | rfl | rfl | rfl
  · show own_Go p e below _ s₁ (mkF m 7 #[.val (.int k), .unset, .unset, .unset] [(.int (0 : Int32))])
    refine own_st (fun t_ k_ => XS.istoreN X0.here hx rfl (hb hby at_7) rfl (l' := #[.val (.int k), .val (.int (0 : Int32)), .unset, .unset]) rfl k_) ?_
    show own_Go p e below _ s₁ (mkF m 8 #[.val (.int k), .val (.int (0 : Int32)), .unset, .unset] [])
    refine own_st (fun t_ k_ => XS.iloadN X0.here hx rfl (hb hby at_8) rfl k_) ?_
    show own_Go p e below _ s₁ (mkF m 9 #[.val (.int k), .val (.int (0 : Int32)), .unset, .unset] [(.int (0 : Int32))])
    refine own_callS X0 hx (y := (⟨"com/example/kapu/kapu/service/ExtendedDecisionIsIndeterminatePinLaw", "pick", "(I)Lcom/example/kapu/kapu/service/ExtendedDecision;"⟩ : MethodName)) hown (mvT hZ (hw _ (List.mem_of_getElem? (i := 1) rfl))) (mvT hZ (hw _ (List.mem_of_getElem? (i := 2) rfl))) (mvT hZ (hw _ (List.mem_of_getElem? (i := 3) rfl))) (mvT hZ (hw _ (List.mem_of_getElem? (i := 4) rfl))) (by decide) (backOf (W := 0) (rmP l Z a0 hw [] (0 : Int32) u0 u1 u2 u3 u4 u5 u0 h0 n0 Z0 S0 S1 S2 S3 S4 S5 rfl) hZ (hw _ (List.mem_of_getElem? (i := 4) rfl)) (hw _ (List.mem_of_getElem? (i := 3) rfl)) (by decide) (by decide)) (g := (mkF m 9 #[.val (.int k), .val (.int (0 : Int32)), .unset, .unset] [(.int (0 : Int32))])) rfl (by rw [hml]; rfl) (argsL := [(.int (0 : Int32))]) (rest := []) (lenOf pd_0 rfl) rfl (by show 2 * 0 + _ ≤ _; exact Nat.le_of_eq rfl) (hb hby at_9) rfl e0 (by decide) (by decide) ?_
    rintro v1 T1 L1 X1 ⟨rfl, Nq1, hh1⟩
    have N1 := Fr.app N0 Nq1
    show own_Go p e below _ T1 (mkF m 12 #[.val (.int k), .val (.int (0 : Int32)), .unset, .unset] [(.ref u0)])
    refine own_st (fun t_ k_ => XS.astoreN X1.here hx rfl (hb hby at_12) rfl rfl (l' := #[.val (.int k), .val (.int (0 : Int32)), .val (.ref u0), .unset]) rfl k_) ?_
    show own_Go p e below _ T1 (mkF m 13 #[.val (.int k), .val (.int (0 : Int32)), .val (.ref u0), .unset] [])
    refine own_st (fun t_ k_ => XS.iloadN X1.here hx rfl (hb hby at_13) rfl k_) ?_
    show own_Go p e below _ T1 (mkF m 14 #[.val (.int k), .val (.int (0 : Int32)), .val (.ref u0), .unset] [(.int (0 : Int32))])
    refine own_st (fun t_ k_ => XS.iconst X1.here hx rfl (hb hby at_14) k_) ?_
    show own_Go p e below _ T1 (mkF m 15 #[.val (.int k), .val (.int (0 : Int32)), .val (.ref u0), .unset] [(.int (3 : Int32)), (.int (0 : Int32))])
    refine own_st (fun t_ k_ => XS.icmpNo X1.here hx rfl (hb hby at_15) rfl (by decide) k_) ?_
    show own_Go p e below _ T1 (mkF m 18 #[.val (.int k), .val (.int (0 : Int32)), .val (.ref u0), .unset] [])
    refine own_st (fun t_ k_ => XS.iloadN X1.here hx rfl (hb hby at_18) rfl k_) ?_
    show own_Go p e below _ T1 (mkF m 19 #[.val (.int k), .val (.int (0 : Int32)), .val (.ref u0), .unset] [(.int (0 : Int32))])
    refine own_st (fun t_ k_ => XS.iconst X1.here hx rfl (hb hby at_19) k_) ?_
    show own_Go p e below _ T1 (mkF m 20 #[.val (.int k), .val (.int (0 : Int32)), .val (.ref u0), .unset] [(.int (4 : Int32)), (.int (0 : Int32))])
    refine own_st (fun t_ k_ => XS.icmpNo X1.here hx rfl (hb hby at_20) rfl (by decide) k_) ?_
    show own_Go p e below _ T1 (mkF m 23 #[.val (.int k), .val (.int (0 : Int32)), .val (.ref u0), .unset] [])
    refine own_st (fun t_ k_ => XS.iloadN X1.here hx rfl (hb hby at_23) rfl k_) ?_
    show own_Go p e below _ T1 (mkF m 24 #[.val (.int k), .val (.int (0 : Int32)), .val (.ref u0), .unset] [(.int (0 : Int32))])
    refine own_st (fun t_ k_ => XS.iconst X1.here hx rfl (hb hby at_24) k_) ?_
    show own_Go p e below _ T1 (mkF m 25 #[.val (.int k), .val (.int (0 : Int32)), .val (.ref u0), .unset] [(.int (5 : Int32)), (.int (0 : Int32))])
    refine own_st (fun t_ k_ => XS.icmpYes X1.here hx rfl (pc0 := 25) (pc' := 32) rfl (hb hby at_25) rfl (by decide) (by decide) (by decide) k_) ?_
    show own_Go p e below _ T1 (mkF m 32 #[.val (.int k), .val (.int (0 : Int32)), .val (.ref u0), .unset] [])
    refine own_st (fun t_ k_ => XS.iconst X1.here hx rfl (hb hby at_32) k_) ?_
    show own_Go p e below _ T1 (mkF m 33 #[.val (.int k), .val (.int (0 : Int32)), .val (.ref u0), .unset] [(.int (0 : Int32))])
    refine own_st (fun t_ k_ => XS.istoreN X1.here hx rfl (hb hby at_33) rfl (l' := #[.val (.int k), .val (.int (0 : Int32)), .val (.ref u0), .val (.int (0 : Int32))]) rfl k_) ?_
    show own_Go p e below _ T1 (mkF m 34 #[.val (.int k), .val (.int (0 : Int32)), .val (.ref u0), .val (.int (0 : Int32))] [])
    refine own_st (fun t_ k_ => XS.aloadN X1.here hx rfl (hb hby at_34) rfl rfl k_) ?_
    show own_Go p e below _ T1 (mkF m 35 #[.val (.int k), .val (.int (0 : Int32)), .val (.ref u0), .val (.int (0 : Int32))] [(.ref u0)])
    obtain ⟨cq3, kq3, q3a, q3b, q3c⟩ := isOf hZ hh1 E0
    refine own_callV X1 hx (y := (⟨"com/example/kapu/kapu/service/ExtendedDecision", "isIndeterminate", "()Z"⟩ : MethodName)) (z := (⟨"com/example/kapu/kapu/service/ExtendedDecision", "isIndeterminate", "()Z"⟩ : MethodName)) hown (mvT hZ (hw _ (List.mem_of_getElem? (i := 8) rfl))) (mvT hZ (hw _ (List.mem_of_getElem? (i := 9) rfl))) (notFace_of_selects (args := #[]) (mvT hZ (hw _ (List.mem_of_getElem? (i := 11) rfl)))) (mvT hZ (hw _ (List.mem_of_getElem? (i := 11) rfl))) (mvT hZ (hw _ (List.mem_of_getElem? (i := 10) rfl))) (by decide) (backOf (W := 0) (rmI l Z a0 hw [] u0 dP dI (0 : Int32) h0 n0 Z0 F0 SI (if_neg ne0).symm) hZ (hw _ (List.mem_of_getElem? (i := 12) rfl)) (hw _ (List.mem_of_getElem? (i := 6) rfl)) (by decide) (by decide)) q3a q3c (g := (mkF m 35 #[.val (.int k), .val (.int (0 : Int32)), .val (.ref u0), .val (.int (0 : Int32))] [(.ref u0)])) rfl (by rw [hml]; rfl) (argsL := []) (rest := []) (lenOf pd_1 rfl) rfl (by show 2 * 0 + _ ≤ _; exact Nat.le_of_eq rfl) (hb hby at_35) rfl hh1 (by decide) (by decide) ?_
    rintro v2 T2 L2 X2 ⟨rfl, Nq2, hh2⟩
    have N2 := Fr.app N1 Nq2
    show own_Go p e below _ T2 (mkF m 38 #[.val (.int k), .val (.int (0 : Int32)), .val (.ref u0), .val (.int (0 : Int32))] [(.int (0 : Int32))])
    refine own_st (fun t_ k_ => XS.iloadN X2.here hx rfl (hb hby at_38) rfl k_) ?_
    show own_Go p e below _ T2 (mkF m 39 #[.val (.int k), .val (.int (0 : Int32)), .val (.ref u0), .val (.int (0 : Int32))] [(.int (0 : Int32)), (.int (0 : Int32))])
    refine own_st (fun t_ k_ => XS.icmpNo X2.here hx rfl (hb hby at_39) rfl (by decide) k_) ?_
    show own_Go p e below _ T2 (mkF m 42 #[.val (.int k), .val (.int (0 : Int32)), .val (.ref u0), .val (.int (0 : Int32))] [])
    refine own_st (fun t_ k_ => XS.iconst X2.here hx rfl (hb hby at_42) k_) ?_
    show own_Go p e below _ T2 (mkF m 43 #[.val (.int k), .val (.int (0 : Int32)), .val (.ref u0), .val (.int (0 : Int32))] [(.int (1 : Int32))])
    refine own_st (fun t_ k_ => XS.goto X2.here hx rfl (pc0 := 43) (pc' := 47) rfl (hb hby at_43) (by decide) (by decide) k_) ?_
    show own_Go p e below _ T2 (mkF m 47 #[.val (.int k), .val (.int (0 : Int32)), .val (.ref u0), .val (.int (0 : Int32))] [(.int (1 : Int32))])
    refine own_retN X2 hx hlk (t := .boolean) Bd.returns (by simp) (hb hby at_47) ?_ (by decide) (by decide)
    show Q0 n0 _ T2.heap _
    rw [hh2]
    exact ⟨rfl, N2⟩
  · show own_Go p e below _ s₁ (mkF m 7 #[.val (.int k), .unset, .unset, .unset] [(.int (1 : Int32))])
    refine own_st (fun t_ k_ => XS.istoreN X0.here hx rfl (hb hby at_7) rfl (l' := #[.val (.int k), .val (.int (1 : Int32)), .unset, .unset]) rfl k_) ?_
    show own_Go p e below _ s₁ (mkF m 8 #[.val (.int k), .val (.int (1 : Int32)), .unset, .unset] [])
    refine own_st (fun t_ k_ => XS.iloadN X0.here hx rfl (hb hby at_8) rfl k_) ?_
    show own_Go p e below _ s₁ (mkF m 9 #[.val (.int k), .val (.int (1 : Int32)), .unset, .unset] [(.int (1 : Int32))])
    refine own_callS X0 hx (y := (⟨"com/example/kapu/kapu/service/ExtendedDecisionIsIndeterminatePinLaw", "pick", "(I)Lcom/example/kapu/kapu/service/ExtendedDecision;"⟩ : MethodName)) hown (mvT hZ (hw _ (List.mem_of_getElem? (i := 1) rfl))) (mvT hZ (hw _ (List.mem_of_getElem? (i := 2) rfl))) (mvT hZ (hw _ (List.mem_of_getElem? (i := 3) rfl))) (mvT hZ (hw _ (List.mem_of_getElem? (i := 4) rfl))) (by decide) (backOf (W := 0) (rmP l Z a0 hw [] (1 : Int32) u0 u1 u2 u3 u4 u5 u1 h0 n0 Z0 S0 S1 S2 S3 S4 S5 rfl) hZ (hw _ (List.mem_of_getElem? (i := 4) rfl)) (hw _ (List.mem_of_getElem? (i := 3) rfl)) (by decide) (by decide)) (g := (mkF m 9 #[.val (.int k), .val (.int (1 : Int32)), .unset, .unset] [(.int (1 : Int32))])) rfl (by rw [hml]; rfl) (argsL := [(.int (1 : Int32))]) (rest := []) (lenOf pd_0 rfl) rfl (by show 2 * 0 + _ ≤ _; exact Nat.le_of_eq rfl) (hb hby at_9) rfl e0 (by decide) (by decide) ?_
    rintro v4 T4 L4 X4 ⟨rfl, Nq4, hh4⟩
    have N4 := Fr.app N0 Nq4
    show own_Go p e below _ T4 (mkF m 12 #[.val (.int k), .val (.int (1 : Int32)), .unset, .unset] [(.ref u1)])
    refine own_st (fun t_ k_ => XS.astoreN X4.here hx rfl (hb hby at_12) rfl rfl (l' := #[.val (.int k), .val (.int (1 : Int32)), .val (.ref u1), .unset]) rfl k_) ?_
    show own_Go p e below _ T4 (mkF m 13 #[.val (.int k), .val (.int (1 : Int32)), .val (.ref u1), .unset] [])
    refine own_st (fun t_ k_ => XS.iloadN X4.here hx rfl (hb hby at_13) rfl k_) ?_
    show own_Go p e below _ T4 (mkF m 14 #[.val (.int k), .val (.int (1 : Int32)), .val (.ref u1), .unset] [(.int (1 : Int32))])
    refine own_st (fun t_ k_ => XS.iconst X4.here hx rfl (hb hby at_14) k_) ?_
    show own_Go p e below _ T4 (mkF m 15 #[.val (.int k), .val (.int (1 : Int32)), .val (.ref u1), .unset] [(.int (3 : Int32)), (.int (1 : Int32))])
    refine own_st (fun t_ k_ => XS.icmpNo X4.here hx rfl (hb hby at_15) rfl (by decide) k_) ?_
    show own_Go p e below _ T4 (mkF m 18 #[.val (.int k), .val (.int (1 : Int32)), .val (.ref u1), .unset] [])
    refine own_st (fun t_ k_ => XS.iloadN X4.here hx rfl (hb hby at_18) rfl k_) ?_
    show own_Go p e below _ T4 (mkF m 19 #[.val (.int k), .val (.int (1 : Int32)), .val (.ref u1), .unset] [(.int (1 : Int32))])
    refine own_st (fun t_ k_ => XS.iconst X4.here hx rfl (hb hby at_19) k_) ?_
    show own_Go p e below _ T4 (mkF m 20 #[.val (.int k), .val (.int (1 : Int32)), .val (.ref u1), .unset] [(.int (4 : Int32)), (.int (1 : Int32))])
    refine own_st (fun t_ k_ => XS.icmpNo X4.here hx rfl (hb hby at_20) rfl (by decide) k_) ?_
    show own_Go p e below _ T4 (mkF m 23 #[.val (.int k), .val (.int (1 : Int32)), .val (.ref u1), .unset] [])
    refine own_st (fun t_ k_ => XS.iloadN X4.here hx rfl (hb hby at_23) rfl k_) ?_
    show own_Go p e below _ T4 (mkF m 24 #[.val (.int k), .val (.int (1 : Int32)), .val (.ref u1), .unset] [(.int (1 : Int32))])
    refine own_st (fun t_ k_ => XS.iconst X4.here hx rfl (hb hby at_24) k_) ?_
    show own_Go p e below _ T4 (mkF m 25 #[.val (.int k), .val (.int (1 : Int32)), .val (.ref u1), .unset] [(.int (5 : Int32)), (.int (1 : Int32))])
    refine own_st (fun t_ k_ => XS.icmpYes X4.here hx rfl (pc0 := 25) (pc' := 32) rfl (hb hby at_25) rfl (by decide) (by decide) (by decide) k_) ?_
    show own_Go p e below _ T4 (mkF m 32 #[.val (.int k), .val (.int (1 : Int32)), .val (.ref u1), .unset] [])
    refine own_st (fun t_ k_ => XS.iconst X4.here hx rfl (hb hby at_32) k_) ?_
    show own_Go p e below _ T4 (mkF m 33 #[.val (.int k), .val (.int (1 : Int32)), .val (.ref u1), .unset] [(.int (0 : Int32))])
    refine own_st (fun t_ k_ => XS.istoreN X4.here hx rfl (hb hby at_33) rfl (l' := #[.val (.int k), .val (.int (1 : Int32)), .val (.ref u1), .val (.int (0 : Int32))]) rfl k_) ?_
    show own_Go p e below _ T4 (mkF m 34 #[.val (.int k), .val (.int (1 : Int32)), .val (.ref u1), .val (.int (0 : Int32))] [])
    refine own_st (fun t_ k_ => XS.aloadN X4.here hx rfl (hb hby at_34) rfl rfl k_) ?_
    show own_Go p e below _ T4 (mkF m 35 #[.val (.int k), .val (.int (1 : Int32)), .val (.ref u1), .val (.int (0 : Int32))] [(.ref u1)])
    obtain ⟨cq6, kq6, q6a, q6b, q6c⟩ := isOf hZ hh4 E1
    refine own_callV X4 hx (y := (⟨"com/example/kapu/kapu/service/ExtendedDecision", "isIndeterminate", "()Z"⟩ : MethodName)) (z := (⟨"com/example/kapu/kapu/service/ExtendedDecision", "isIndeterminate", "()Z"⟩ : MethodName)) hown (mvT hZ (hw _ (List.mem_of_getElem? (i := 8) rfl))) (mvT hZ (hw _ (List.mem_of_getElem? (i := 9) rfl))) (notFace_of_selects (args := #[]) (mvT hZ (hw _ (List.mem_of_getElem? (i := 11) rfl)))) (mvT hZ (hw _ (List.mem_of_getElem? (i := 11) rfl))) (mvT hZ (hw _ (List.mem_of_getElem? (i := 10) rfl))) (by decide) (backOf (W := 0) (rmI l Z a0 hw [] u1 dD dI (0 : Int32) h0 n0 Z0 F1 SI (if_neg ne1).symm) hZ (hw _ (List.mem_of_getElem? (i := 12) rfl)) (hw _ (List.mem_of_getElem? (i := 6) rfl)) (by decide) (by decide)) q6a q6c (g := (mkF m 35 #[.val (.int k), .val (.int (1 : Int32)), .val (.ref u1), .val (.int (0 : Int32))] [(.ref u1)])) rfl (by rw [hml]; rfl) (argsL := []) (rest := []) (lenOf pd_1 rfl) rfl (by show 2 * 0 + _ ≤ _; exact Nat.le_of_eq rfl) (hb hby at_35) rfl hh4 (by decide) (by decide) ?_
    rintro v5 T5 L5 X5 ⟨rfl, Nq5, hh5⟩
    have N5 := Fr.app N4 Nq5
    show own_Go p e below _ T5 (mkF m 38 #[.val (.int k), .val (.int (1 : Int32)), .val (.ref u1), .val (.int (0 : Int32))] [(.int (0 : Int32))])
    refine own_st (fun t_ k_ => XS.iloadN X5.here hx rfl (hb hby at_38) rfl k_) ?_
    show own_Go p e below _ T5 (mkF m 39 #[.val (.int k), .val (.int (1 : Int32)), .val (.ref u1), .val (.int (0 : Int32))] [(.int (0 : Int32)), (.int (0 : Int32))])
    refine own_st (fun t_ k_ => XS.icmpNo X5.here hx rfl (hb hby at_39) rfl (by decide) k_) ?_
    show own_Go p e below _ T5 (mkF m 42 #[.val (.int k), .val (.int (1 : Int32)), .val (.ref u1), .val (.int (0 : Int32))] [])
    refine own_st (fun t_ k_ => XS.iconst X5.here hx rfl (hb hby at_42) k_) ?_
    show own_Go p e below _ T5 (mkF m 43 #[.val (.int k), .val (.int (1 : Int32)), .val (.ref u1), .val (.int (0 : Int32))] [(.int (1 : Int32))])
    refine own_st (fun t_ k_ => XS.goto X5.here hx rfl (pc0 := 43) (pc' := 47) rfl (hb hby at_43) (by decide) (by decide) k_) ?_
    show own_Go p e below _ T5 (mkF m 47 #[.val (.int k), .val (.int (1 : Int32)), .val (.ref u1), .val (.int (0 : Int32))] [(.int (1 : Int32))])
    refine own_retN X5 hx hlk (t := .boolean) Bd.returns (by simp) (hb hby at_47) ?_ (by decide) (by decide)
    show Q0 n0 _ T5.heap _
    rw [hh5]
    exact ⟨rfl, N5⟩
  · show own_Go p e below _ s₁ (mkF m 7 #[.val (.int k), .unset, .unset, .unset] [(.int (2 : Int32))])
    refine own_st (fun t_ k_ => XS.istoreN X0.here hx rfl (hb hby at_7) rfl (l' := #[.val (.int k), .val (.int (2 : Int32)), .unset, .unset]) rfl k_) ?_
    show own_Go p e below _ s₁ (mkF m 8 #[.val (.int k), .val (.int (2 : Int32)), .unset, .unset] [])
    refine own_st (fun t_ k_ => XS.iloadN X0.here hx rfl (hb hby at_8) rfl k_) ?_
    show own_Go p e below _ s₁ (mkF m 9 #[.val (.int k), .val (.int (2 : Int32)), .unset, .unset] [(.int (2 : Int32))])
    refine own_callS X0 hx (y := (⟨"com/example/kapu/kapu/service/ExtendedDecisionIsIndeterminatePinLaw", "pick", "(I)Lcom/example/kapu/kapu/service/ExtendedDecision;"⟩ : MethodName)) hown (mvT hZ (hw _ (List.mem_of_getElem? (i := 1) rfl))) (mvT hZ (hw _ (List.mem_of_getElem? (i := 2) rfl))) (mvT hZ (hw _ (List.mem_of_getElem? (i := 3) rfl))) (mvT hZ (hw _ (List.mem_of_getElem? (i := 4) rfl))) (by decide) (backOf (W := 0) (rmP l Z a0 hw [] (2 : Int32) u0 u1 u2 u3 u4 u5 u2 h0 n0 Z0 S0 S1 S2 S3 S4 S5 rfl) hZ (hw _ (List.mem_of_getElem? (i := 4) rfl)) (hw _ (List.mem_of_getElem? (i := 3) rfl)) (by decide) (by decide)) (g := (mkF m 9 #[.val (.int k), .val (.int (2 : Int32)), .unset, .unset] [(.int (2 : Int32))])) rfl (by rw [hml]; rfl) (argsL := [(.int (2 : Int32))]) (rest := []) (lenOf pd_0 rfl) rfl (by show 2 * 0 + _ ≤ _; exact Nat.le_of_eq rfl) (hb hby at_9) rfl e0 (by decide) (by decide) ?_
    rintro v7 T7 L7 X7 ⟨rfl, Nq7, hh7⟩
    have N7 := Fr.app N0 Nq7
    show own_Go p e below _ T7 (mkF m 12 #[.val (.int k), .val (.int (2 : Int32)), .unset, .unset] [(.ref u2)])
    refine own_st (fun t_ k_ => XS.astoreN X7.here hx rfl (hb hby at_12) rfl rfl (l' := #[.val (.int k), .val (.int (2 : Int32)), .val (.ref u2), .unset]) rfl k_) ?_
    show own_Go p e below _ T7 (mkF m 13 #[.val (.int k), .val (.int (2 : Int32)), .val (.ref u2), .unset] [])
    refine own_st (fun t_ k_ => XS.iloadN X7.here hx rfl (hb hby at_13) rfl k_) ?_
    show own_Go p e below _ T7 (mkF m 14 #[.val (.int k), .val (.int (2 : Int32)), .val (.ref u2), .unset] [(.int (2 : Int32))])
    refine own_st (fun t_ k_ => XS.iconst X7.here hx rfl (hb hby at_14) k_) ?_
    show own_Go p e below _ T7 (mkF m 15 #[.val (.int k), .val (.int (2 : Int32)), .val (.ref u2), .unset] [(.int (3 : Int32)), (.int (2 : Int32))])
    refine own_st (fun t_ k_ => XS.icmpNo X7.here hx rfl (hb hby at_15) rfl (by decide) k_) ?_
    show own_Go p e below _ T7 (mkF m 18 #[.val (.int k), .val (.int (2 : Int32)), .val (.ref u2), .unset] [])
    refine own_st (fun t_ k_ => XS.iloadN X7.here hx rfl (hb hby at_18) rfl k_) ?_
    show own_Go p e below _ T7 (mkF m 19 #[.val (.int k), .val (.int (2 : Int32)), .val (.ref u2), .unset] [(.int (2 : Int32))])
    refine own_st (fun t_ k_ => XS.iconst X7.here hx rfl (hb hby at_19) k_) ?_
    show own_Go p e below _ T7 (mkF m 20 #[.val (.int k), .val (.int (2 : Int32)), .val (.ref u2), .unset] [(.int (4 : Int32)), (.int (2 : Int32))])
    refine own_st (fun t_ k_ => XS.icmpNo X7.here hx rfl (hb hby at_20) rfl (by decide) k_) ?_
    show own_Go p e below _ T7 (mkF m 23 #[.val (.int k), .val (.int (2 : Int32)), .val (.ref u2), .unset] [])
    refine own_st (fun t_ k_ => XS.iloadN X7.here hx rfl (hb hby at_23) rfl k_) ?_
    show own_Go p e below _ T7 (mkF m 24 #[.val (.int k), .val (.int (2 : Int32)), .val (.ref u2), .unset] [(.int (2 : Int32))])
    refine own_st (fun t_ k_ => XS.iconst X7.here hx rfl (hb hby at_24) k_) ?_
    show own_Go p e below _ T7 (mkF m 25 #[.val (.int k), .val (.int (2 : Int32)), .val (.ref u2), .unset] [(.int (5 : Int32)), (.int (2 : Int32))])
    refine own_st (fun t_ k_ => XS.icmpYes X7.here hx rfl (pc0 := 25) (pc' := 32) rfl (hb hby at_25) rfl (by decide) (by decide) (by decide) k_) ?_
    show own_Go p e below _ T7 (mkF m 32 #[.val (.int k), .val (.int (2 : Int32)), .val (.ref u2), .unset] [])
    refine own_st (fun t_ k_ => XS.iconst X7.here hx rfl (hb hby at_32) k_) ?_
    show own_Go p e below _ T7 (mkF m 33 #[.val (.int k), .val (.int (2 : Int32)), .val (.ref u2), .unset] [(.int (0 : Int32))])
    refine own_st (fun t_ k_ => XS.istoreN X7.here hx rfl (hb hby at_33) rfl (l' := #[.val (.int k), .val (.int (2 : Int32)), .val (.ref u2), .val (.int (0 : Int32))]) rfl k_) ?_
    show own_Go p e below _ T7 (mkF m 34 #[.val (.int k), .val (.int (2 : Int32)), .val (.ref u2), .val (.int (0 : Int32))] [])
    refine own_st (fun t_ k_ => XS.aloadN X7.here hx rfl (hb hby at_34) rfl rfl k_) ?_
    show own_Go p e below _ T7 (mkF m 35 #[.val (.int k), .val (.int (2 : Int32)), .val (.ref u2), .val (.int (0 : Int32))] [(.ref u2)])
    obtain ⟨cq9, kq9, q9a, q9b, q9c⟩ := isOf hZ hh7 E2
    refine own_callV X7 hx (y := (⟨"com/example/kapu/kapu/service/ExtendedDecision", "isIndeterminate", "()Z"⟩ : MethodName)) (z := (⟨"com/example/kapu/kapu/service/ExtendedDecision", "isIndeterminate", "()Z"⟩ : MethodName)) hown (mvT hZ (hw _ (List.mem_of_getElem? (i := 8) rfl))) (mvT hZ (hw _ (List.mem_of_getElem? (i := 9) rfl))) (notFace_of_selects (args := #[]) (mvT hZ (hw _ (List.mem_of_getElem? (i := 11) rfl)))) (mvT hZ (hw _ (List.mem_of_getElem? (i := 11) rfl))) (mvT hZ (hw _ (List.mem_of_getElem? (i := 10) rfl))) (by decide) (backOf (W := 0) (rmI l Z a0 hw [] u2 dN dI (0 : Int32) h0 n0 Z0 F2 SI (if_neg ne2).symm) hZ (hw _ (List.mem_of_getElem? (i := 12) rfl)) (hw _ (List.mem_of_getElem? (i := 6) rfl)) (by decide) (by decide)) q9a q9c (g := (mkF m 35 #[.val (.int k), .val (.int (2 : Int32)), .val (.ref u2), .val (.int (0 : Int32))] [(.ref u2)])) rfl (by rw [hml]; rfl) (argsL := []) (rest := []) (lenOf pd_1 rfl) rfl (by show 2 * 0 + _ ≤ _; exact Nat.le_of_eq rfl) (hb hby at_35) rfl hh7 (by decide) (by decide) ?_
    rintro v8 T8 L8 X8 ⟨rfl, Nq8, hh8⟩
    have N8 := Fr.app N7 Nq8
    show own_Go p e below _ T8 (mkF m 38 #[.val (.int k), .val (.int (2 : Int32)), .val (.ref u2), .val (.int (0 : Int32))] [(.int (0 : Int32))])
    refine own_st (fun t_ k_ => XS.iloadN X8.here hx rfl (hb hby at_38) rfl k_) ?_
    show own_Go p e below _ T8 (mkF m 39 #[.val (.int k), .val (.int (2 : Int32)), .val (.ref u2), .val (.int (0 : Int32))] [(.int (0 : Int32)), (.int (0 : Int32))])
    refine own_st (fun t_ k_ => XS.icmpNo X8.here hx rfl (hb hby at_39) rfl (by decide) k_) ?_
    show own_Go p e below _ T8 (mkF m 42 #[.val (.int k), .val (.int (2 : Int32)), .val (.ref u2), .val (.int (0 : Int32))] [])
    refine own_st (fun t_ k_ => XS.iconst X8.here hx rfl (hb hby at_42) k_) ?_
    show own_Go p e below _ T8 (mkF m 43 #[.val (.int k), .val (.int (2 : Int32)), .val (.ref u2), .val (.int (0 : Int32))] [(.int (1 : Int32))])
    refine own_st (fun t_ k_ => XS.goto X8.here hx rfl (pc0 := 43) (pc' := 47) rfl (hb hby at_43) (by decide) (by decide) k_) ?_
    show own_Go p e below _ T8 (mkF m 47 #[.val (.int k), .val (.int (2 : Int32)), .val (.ref u2), .val (.int (0 : Int32))] [(.int (1 : Int32))])
    refine own_retN X8 hx hlk (t := .boolean) Bd.returns (by simp) (hb hby at_47) ?_ (by decide) (by decide)
    show Q0 n0 _ T8.heap _
    rw [hh8]
    exact ⟨rfl, N8⟩
  · show own_Go p e below _ s₁ (mkF m 7 #[.val (.int k), .unset, .unset, .unset] [(.int (3 : Int32))])
    refine own_st (fun t_ k_ => XS.istoreN X0.here hx rfl (hb hby at_7) rfl (l' := #[.val (.int k), .val (.int (3 : Int32)), .unset, .unset]) rfl k_) ?_
    show own_Go p e below _ s₁ (mkF m 8 #[.val (.int k), .val (.int (3 : Int32)), .unset, .unset] [])
    refine own_st (fun t_ k_ => XS.iloadN X0.here hx rfl (hb hby at_8) rfl k_) ?_
    show own_Go p e below _ s₁ (mkF m 9 #[.val (.int k), .val (.int (3 : Int32)), .unset, .unset] [(.int (3 : Int32))])
    refine own_callS X0 hx (y := (⟨"com/example/kapu/kapu/service/ExtendedDecisionIsIndeterminatePinLaw", "pick", "(I)Lcom/example/kapu/kapu/service/ExtendedDecision;"⟩ : MethodName)) hown (mvT hZ (hw _ (List.mem_of_getElem? (i := 1) rfl))) (mvT hZ (hw _ (List.mem_of_getElem? (i := 2) rfl))) (mvT hZ (hw _ (List.mem_of_getElem? (i := 3) rfl))) (mvT hZ (hw _ (List.mem_of_getElem? (i := 4) rfl))) (by decide) (backOf (W := 0) (rmP l Z a0 hw [] (3 : Int32) u0 u1 u2 u3 u4 u5 u3 h0 n0 Z0 S0 S1 S2 S3 S4 S5 rfl) hZ (hw _ (List.mem_of_getElem? (i := 4) rfl)) (hw _ (List.mem_of_getElem? (i := 3) rfl)) (by decide) (by decide)) (g := (mkF m 9 #[.val (.int k), .val (.int (3 : Int32)), .unset, .unset] [(.int (3 : Int32))])) rfl (by rw [hml]; rfl) (argsL := [(.int (3 : Int32))]) (rest := []) (lenOf pd_0 rfl) rfl (by show 2 * 0 + _ ≤ _; exact Nat.le_of_eq rfl) (hb hby at_9) rfl e0 (by decide) (by decide) ?_
    rintro v10 T10 L10 X10 ⟨rfl, Nq10, hh10⟩
    have N10 := Fr.app N0 Nq10
    show own_Go p e below _ T10 (mkF m 12 #[.val (.int k), .val (.int (3 : Int32)), .unset, .unset] [(.ref u3)])
    refine own_st (fun t_ k_ => XS.astoreN X10.here hx rfl (hb hby at_12) rfl rfl (l' := #[.val (.int k), .val (.int (3 : Int32)), .val (.ref u3), .unset]) rfl k_) ?_
    show own_Go p e below _ T10 (mkF m 13 #[.val (.int k), .val (.int (3 : Int32)), .val (.ref u3), .unset] [])
    refine own_st (fun t_ k_ => XS.iloadN X10.here hx rfl (hb hby at_13) rfl k_) ?_
    show own_Go p e below _ T10 (mkF m 14 #[.val (.int k), .val (.int (3 : Int32)), .val (.ref u3), .unset] [(.int (3 : Int32))])
    refine own_st (fun t_ k_ => XS.iconst X10.here hx rfl (hb hby at_14) k_) ?_
    show own_Go p e below _ T10 (mkF m 15 #[.val (.int k), .val (.int (3 : Int32)), .val (.ref u3), .unset] [(.int (3 : Int32)), (.int (3 : Int32))])
    refine own_st (fun t_ k_ => XS.icmpYes X10.here hx rfl (pc0 := 15) (pc' := 28) rfl (hb hby at_15) rfl (by decide) (by decide) (by decide) k_) ?_
    show own_Go p e below _ T10 (mkF m 28 #[.val (.int k), .val (.int (3 : Int32)), .val (.ref u3), .unset] [])
    refine own_st (fun t_ k_ => XS.iconst X10.here hx rfl (hb hby at_28) k_) ?_
    show own_Go p e below _ T10 (mkF m 29 #[.val (.int k), .val (.int (3 : Int32)), .val (.ref u3), .unset] [(.int (1 : Int32))])
    refine own_st (fun t_ k_ => XS.goto X10.here hx rfl (pc0 := 29) (pc' := 33) rfl (hb hby at_29) (by decide) (by decide) k_) ?_
    show own_Go p e below _ T10 (mkF m 33 #[.val (.int k), .val (.int (3 : Int32)), .val (.ref u3), .unset] [(.int (1 : Int32))])
    refine own_st (fun t_ k_ => XS.istoreN X10.here hx rfl (hb hby at_33) rfl (l' := #[.val (.int k), .val (.int (3 : Int32)), .val (.ref u3), .val (.int (1 : Int32))]) rfl k_) ?_
    show own_Go p e below _ T10 (mkF m 34 #[.val (.int k), .val (.int (3 : Int32)), .val (.ref u3), .val (.int (1 : Int32))] [])
    refine own_st (fun t_ k_ => XS.aloadN X10.here hx rfl (hb hby at_34) rfl rfl k_) ?_
    show own_Go p e below _ T10 (mkF m 35 #[.val (.int k), .val (.int (3 : Int32)), .val (.ref u3), .val (.int (1 : Int32))] [(.ref u3)])
    obtain ⟨cq12, kq12, q12a, q12b, q12c⟩ := isOf hZ hh10 E3
    refine own_callV X10 hx (y := (⟨"com/example/kapu/kapu/service/ExtendedDecision", "isIndeterminate", "()Z"⟩ : MethodName)) (z := (⟨"com/example/kapu/kapu/service/ExtendedDecision", "isIndeterminate", "()Z"⟩ : MethodName)) hown (mvT hZ (hw _ (List.mem_of_getElem? (i := 8) rfl))) (mvT hZ (hw _ (List.mem_of_getElem? (i := 9) rfl))) (notFace_of_selects (args := #[]) (mvT hZ (hw _ (List.mem_of_getElem? (i := 11) rfl)))) (mvT hZ (hw _ (List.mem_of_getElem? (i := 11) rfl))) (mvT hZ (hw _ (List.mem_of_getElem? (i := 10) rfl))) (by decide) (backOf (W := 0) (rmI l Z a0 hw [] u3 dI dI (1 : Int32) h0 n0 Z0 F3 SI (if_pos rfl).symm) hZ (hw _ (List.mem_of_getElem? (i := 12) rfl)) (hw _ (List.mem_of_getElem? (i := 6) rfl)) (by decide) (by decide)) q12a q12c (g := (mkF m 35 #[.val (.int k), .val (.int (3 : Int32)), .val (.ref u3), .val (.int (1 : Int32))] [(.ref u3)])) rfl (by rw [hml]; rfl) (argsL := []) (rest := []) (lenOf pd_1 rfl) rfl (by show 2 * 0 + _ ≤ _; exact Nat.le_of_eq rfl) (hb hby at_35) rfl hh10 (by decide) (by decide) ?_
    rintro v11 T11 L11 X11 ⟨rfl, Nq11, hh11⟩
    have N11 := Fr.app N10 Nq11
    show own_Go p e below _ T11 (mkF m 38 #[.val (.int k), .val (.int (3 : Int32)), .val (.ref u3), .val (.int (1 : Int32))] [(.int (1 : Int32))])
    refine own_st (fun t_ k_ => XS.iloadN X11.here hx rfl (hb hby at_38) rfl k_) ?_
    show own_Go p e below _ T11 (mkF m 39 #[.val (.int k), .val (.int (3 : Int32)), .val (.ref u3), .val (.int (1 : Int32))] [(.int (1 : Int32)), (.int (1 : Int32))])
    refine own_st (fun t_ k_ => XS.icmpNo X11.here hx rfl (hb hby at_39) rfl (by decide) k_) ?_
    show own_Go p e below _ T11 (mkF m 42 #[.val (.int k), .val (.int (3 : Int32)), .val (.ref u3), .val (.int (1 : Int32))] [])
    refine own_st (fun t_ k_ => XS.iconst X11.here hx rfl (hb hby at_42) k_) ?_
    show own_Go p e below _ T11 (mkF m 43 #[.val (.int k), .val (.int (3 : Int32)), .val (.ref u3), .val (.int (1 : Int32))] [(.int (1 : Int32))])
    refine own_st (fun t_ k_ => XS.goto X11.here hx rfl (pc0 := 43) (pc' := 47) rfl (hb hby at_43) (by decide) (by decide) k_) ?_
    show own_Go p e below _ T11 (mkF m 47 #[.val (.int k), .val (.int (3 : Int32)), .val (.ref u3), .val (.int (1 : Int32))] [(.int (1 : Int32))])
    refine own_retN X11 hx hlk (t := .boolean) Bd.returns (by simp) (hb hby at_47) ?_ (by decide) (by decide)
    show Q0 n0 _ T11.heap _
    rw [hh11]
    exact ⟨rfl, N11⟩
  · show own_Go p e below _ s₁ (mkF m 7 #[.val (.int k), .unset, .unset, .unset] [(.int (4 : Int32))])
    refine own_st (fun t_ k_ => XS.istoreN X0.here hx rfl (hb hby at_7) rfl (l' := #[.val (.int k), .val (.int (4 : Int32)), .unset, .unset]) rfl k_) ?_
    show own_Go p e below _ s₁ (mkF m 8 #[.val (.int k), .val (.int (4 : Int32)), .unset, .unset] [])
    refine own_st (fun t_ k_ => XS.iloadN X0.here hx rfl (hb hby at_8) rfl k_) ?_
    show own_Go p e below _ s₁ (mkF m 9 #[.val (.int k), .val (.int (4 : Int32)), .unset, .unset] [(.int (4 : Int32))])
    refine own_callS X0 hx (y := (⟨"com/example/kapu/kapu/service/ExtendedDecisionIsIndeterminatePinLaw", "pick", "(I)Lcom/example/kapu/kapu/service/ExtendedDecision;"⟩ : MethodName)) hown (mvT hZ (hw _ (List.mem_of_getElem? (i := 1) rfl))) (mvT hZ (hw _ (List.mem_of_getElem? (i := 2) rfl))) (mvT hZ (hw _ (List.mem_of_getElem? (i := 3) rfl))) (mvT hZ (hw _ (List.mem_of_getElem? (i := 4) rfl))) (by decide) (backOf (W := 0) (rmP l Z a0 hw [] (4 : Int32) u0 u1 u2 u3 u4 u5 u4 h0 n0 Z0 S0 S1 S2 S3 S4 S5 rfl) hZ (hw _ (List.mem_of_getElem? (i := 4) rfl)) (hw _ (List.mem_of_getElem? (i := 3) rfl)) (by decide) (by decide)) (g := (mkF m 9 #[.val (.int k), .val (.int (4 : Int32)), .unset, .unset] [(.int (4 : Int32))])) rfl (by rw [hml]; rfl) (argsL := [(.int (4 : Int32))]) (rest := []) (lenOf pd_0 rfl) rfl (by show 2 * 0 + _ ≤ _; exact Nat.le_of_eq rfl) (hb hby at_9) rfl e0 (by decide) (by decide) ?_
    rintro v13 T13 L13 X13 ⟨rfl, Nq13, hh13⟩
    have N13 := Fr.app N0 Nq13
    show own_Go p e below _ T13 (mkF m 12 #[.val (.int k), .val (.int (4 : Int32)), .unset, .unset] [(.ref u4)])
    refine own_st (fun t_ k_ => XS.astoreN X13.here hx rfl (hb hby at_12) rfl rfl (l' := #[.val (.int k), .val (.int (4 : Int32)), .val (.ref u4), .unset]) rfl k_) ?_
    show own_Go p e below _ T13 (mkF m 13 #[.val (.int k), .val (.int (4 : Int32)), .val (.ref u4), .unset] [])
    refine own_st (fun t_ k_ => XS.iloadN X13.here hx rfl (hb hby at_13) rfl k_) ?_
    show own_Go p e below _ T13 (mkF m 14 #[.val (.int k), .val (.int (4 : Int32)), .val (.ref u4), .unset] [(.int (4 : Int32))])
    refine own_st (fun t_ k_ => XS.iconst X13.here hx rfl (hb hby at_14) k_) ?_
    show own_Go p e below _ T13 (mkF m 15 #[.val (.int k), .val (.int (4 : Int32)), .val (.ref u4), .unset] [(.int (3 : Int32)), (.int (4 : Int32))])
    refine own_st (fun t_ k_ => XS.icmpNo X13.here hx rfl (hb hby at_15) rfl (by decide) k_) ?_
    show own_Go p e below _ T13 (mkF m 18 #[.val (.int k), .val (.int (4 : Int32)), .val (.ref u4), .unset] [])
    refine own_st (fun t_ k_ => XS.iloadN X13.here hx rfl (hb hby at_18) rfl k_) ?_
    show own_Go p e below _ T13 (mkF m 19 #[.val (.int k), .val (.int (4 : Int32)), .val (.ref u4), .unset] [(.int (4 : Int32))])
    refine own_st (fun t_ k_ => XS.iconst X13.here hx rfl (hb hby at_19) k_) ?_
    show own_Go p e below _ T13 (mkF m 20 #[.val (.int k), .val (.int (4 : Int32)), .val (.ref u4), .unset] [(.int (4 : Int32)), (.int (4 : Int32))])
    refine own_st (fun t_ k_ => XS.icmpYes X13.here hx rfl (pc0 := 20) (pc' := 28) rfl (hb hby at_20) rfl (by decide) (by decide) (by decide) k_) ?_
    show own_Go p e below _ T13 (mkF m 28 #[.val (.int k), .val (.int (4 : Int32)), .val (.ref u4), .unset] [])
    refine own_st (fun t_ k_ => XS.iconst X13.here hx rfl (hb hby at_28) k_) ?_
    show own_Go p e below _ T13 (mkF m 29 #[.val (.int k), .val (.int (4 : Int32)), .val (.ref u4), .unset] [(.int (1 : Int32))])
    refine own_st (fun t_ k_ => XS.goto X13.here hx rfl (pc0 := 29) (pc' := 33) rfl (hb hby at_29) (by decide) (by decide) k_) ?_
    show own_Go p e below _ T13 (mkF m 33 #[.val (.int k), .val (.int (4 : Int32)), .val (.ref u4), .unset] [(.int (1 : Int32))])
    refine own_st (fun t_ k_ => XS.istoreN X13.here hx rfl (hb hby at_33) rfl (l' := #[.val (.int k), .val (.int (4 : Int32)), .val (.ref u4), .val (.int (1 : Int32))]) rfl k_) ?_
    show own_Go p e below _ T13 (mkF m 34 #[.val (.int k), .val (.int (4 : Int32)), .val (.ref u4), .val (.int (1 : Int32))] [])
    refine own_st (fun t_ k_ => XS.aloadN X13.here hx rfl (hb hby at_34) rfl rfl k_) ?_
    show own_Go p e below _ T13 (mkF m 35 #[.val (.int k), .val (.int (4 : Int32)), .val (.ref u4), .val (.int (1 : Int32))] [(.ref u4)])
    obtain ⟨cq15, kq15, q15a, q15b, q15c⟩ := isOf hZ hh13 E4
    refine own_callV X13 hx (y := (⟨"com/example/kapu/kapu/service/ExtendedDecision", "isIndeterminate", "()Z"⟩ : MethodName)) (z := (⟨"com/example/kapu/kapu/service/ExtendedDecision", "isIndeterminate", "()Z"⟩ : MethodName)) hown (mvT hZ (hw _ (List.mem_of_getElem? (i := 8) rfl))) (mvT hZ (hw _ (List.mem_of_getElem? (i := 9) rfl))) (notFace_of_selects (args := #[]) (mvT hZ (hw _ (List.mem_of_getElem? (i := 11) rfl)))) (mvT hZ (hw _ (List.mem_of_getElem? (i := 11) rfl))) (mvT hZ (hw _ (List.mem_of_getElem? (i := 10) rfl))) (by decide) (backOf (W := 0) (rmI l Z a0 hw [] u4 dI dI (1 : Int32) h0 n0 Z0 F4 SI (if_pos rfl).symm) hZ (hw _ (List.mem_of_getElem? (i := 12) rfl)) (hw _ (List.mem_of_getElem? (i := 6) rfl)) (by decide) (by decide)) q15a q15c (g := (mkF m 35 #[.val (.int k), .val (.int (4 : Int32)), .val (.ref u4), .val (.int (1 : Int32))] [(.ref u4)])) rfl (by rw [hml]; rfl) (argsL := []) (rest := []) (lenOf pd_1 rfl) rfl (by show 2 * 0 + _ ≤ _; exact Nat.le_of_eq rfl) (hb hby at_35) rfl hh13 (by decide) (by decide) ?_
    rintro v14 T14 L14 X14 ⟨rfl, Nq14, hh14⟩
    have N14 := Fr.app N13 Nq14
    show own_Go p e below _ T14 (mkF m 38 #[.val (.int k), .val (.int (4 : Int32)), .val (.ref u4), .val (.int (1 : Int32))] [(.int (1 : Int32))])
    refine own_st (fun t_ k_ => XS.iloadN X14.here hx rfl (hb hby at_38) rfl k_) ?_
    show own_Go p e below _ T14 (mkF m 39 #[.val (.int k), .val (.int (4 : Int32)), .val (.ref u4), .val (.int (1 : Int32))] [(.int (1 : Int32)), (.int (1 : Int32))])
    refine own_st (fun t_ k_ => XS.icmpNo X14.here hx rfl (hb hby at_39) rfl (by decide) k_) ?_
    show own_Go p e below _ T14 (mkF m 42 #[.val (.int k), .val (.int (4 : Int32)), .val (.ref u4), .val (.int (1 : Int32))] [])
    refine own_st (fun t_ k_ => XS.iconst X14.here hx rfl (hb hby at_42) k_) ?_
    show own_Go p e below _ T14 (mkF m 43 #[.val (.int k), .val (.int (4 : Int32)), .val (.ref u4), .val (.int (1 : Int32))] [(.int (1 : Int32))])
    refine own_st (fun t_ k_ => XS.goto X14.here hx rfl (pc0 := 43) (pc' := 47) rfl (hb hby at_43) (by decide) (by decide) k_) ?_
    show own_Go p e below _ T14 (mkF m 47 #[.val (.int k), .val (.int (4 : Int32)), .val (.ref u4), .val (.int (1 : Int32))] [(.int (1 : Int32))])
    refine own_retN X14 hx hlk (t := .boolean) Bd.returns (by simp) (hb hby at_47) ?_ (by decide) (by decide)
    show Q0 n0 _ T14.heap _
    rw [hh14]
    exact ⟨rfl, N14⟩
  · show own_Go p e below _ s₁ (mkF m 7 #[.val (.int k), .unset, .unset, .unset] [(.int (5 : Int32))])
    refine own_st (fun t_ k_ => XS.istoreN X0.here hx rfl (hb hby at_7) rfl (l' := #[.val (.int k), .val (.int (5 : Int32)), .unset, .unset]) rfl k_) ?_
    show own_Go p e below _ s₁ (mkF m 8 #[.val (.int k), .val (.int (5 : Int32)), .unset, .unset] [])
    refine own_st (fun t_ k_ => XS.iloadN X0.here hx rfl (hb hby at_8) rfl k_) ?_
    show own_Go p e below _ s₁ (mkF m 9 #[.val (.int k), .val (.int (5 : Int32)), .unset, .unset] [(.int (5 : Int32))])
    refine own_callS X0 hx (y := (⟨"com/example/kapu/kapu/service/ExtendedDecisionIsIndeterminatePinLaw", "pick", "(I)Lcom/example/kapu/kapu/service/ExtendedDecision;"⟩ : MethodName)) hown (mvT hZ (hw _ (List.mem_of_getElem? (i := 1) rfl))) (mvT hZ (hw _ (List.mem_of_getElem? (i := 2) rfl))) (mvT hZ (hw _ (List.mem_of_getElem? (i := 3) rfl))) (mvT hZ (hw _ (List.mem_of_getElem? (i := 4) rfl))) (by decide) (backOf (W := 0) (rmP l Z a0 hw [] (5 : Int32) u0 u1 u2 u3 u4 u5 u5 h0 n0 Z0 S0 S1 S2 S3 S4 S5 rfl) hZ (hw _ (List.mem_of_getElem? (i := 4) rfl)) (hw _ (List.mem_of_getElem? (i := 3) rfl)) (by decide) (by decide)) (g := (mkF m 9 #[.val (.int k), .val (.int (5 : Int32)), .unset, .unset] [(.int (5 : Int32))])) rfl (by rw [hml]; rfl) (argsL := [(.int (5 : Int32))]) (rest := []) (lenOf pd_0 rfl) rfl (by show 2 * 0 + _ ≤ _; exact Nat.le_of_eq rfl) (hb hby at_9) rfl e0 (by decide) (by decide) ?_
    rintro v16 T16 L16 X16 ⟨rfl, Nq16, hh16⟩
    have N16 := Fr.app N0 Nq16
    show own_Go p e below _ T16 (mkF m 12 #[.val (.int k), .val (.int (5 : Int32)), .unset, .unset] [(.ref u5)])
    refine own_st (fun t_ k_ => XS.astoreN X16.here hx rfl (hb hby at_12) rfl rfl (l' := #[.val (.int k), .val (.int (5 : Int32)), .val (.ref u5), .unset]) rfl k_) ?_
    show own_Go p e below _ T16 (mkF m 13 #[.val (.int k), .val (.int (5 : Int32)), .val (.ref u5), .unset] [])
    refine own_st (fun t_ k_ => XS.iloadN X16.here hx rfl (hb hby at_13) rfl k_) ?_
    show own_Go p e below _ T16 (mkF m 14 #[.val (.int k), .val (.int (5 : Int32)), .val (.ref u5), .unset] [(.int (5 : Int32))])
    refine own_st (fun t_ k_ => XS.iconst X16.here hx rfl (hb hby at_14) k_) ?_
    show own_Go p e below _ T16 (mkF m 15 #[.val (.int k), .val (.int (5 : Int32)), .val (.ref u5), .unset] [(.int (3 : Int32)), (.int (5 : Int32))])
    refine own_st (fun t_ k_ => XS.icmpNo X16.here hx rfl (hb hby at_15) rfl (by decide) k_) ?_
    show own_Go p e below _ T16 (mkF m 18 #[.val (.int k), .val (.int (5 : Int32)), .val (.ref u5), .unset] [])
    refine own_st (fun t_ k_ => XS.iloadN X16.here hx rfl (hb hby at_18) rfl k_) ?_
    show own_Go p e below _ T16 (mkF m 19 #[.val (.int k), .val (.int (5 : Int32)), .val (.ref u5), .unset] [(.int (5 : Int32))])
    refine own_st (fun t_ k_ => XS.iconst X16.here hx rfl (hb hby at_19) k_) ?_
    show own_Go p e below _ T16 (mkF m 20 #[.val (.int k), .val (.int (5 : Int32)), .val (.ref u5), .unset] [(.int (4 : Int32)), (.int (5 : Int32))])
    refine own_st (fun t_ k_ => XS.icmpNo X16.here hx rfl (hb hby at_20) rfl (by decide) k_) ?_
    show own_Go p e below _ T16 (mkF m 23 #[.val (.int k), .val (.int (5 : Int32)), .val (.ref u5), .unset] [])
    refine own_st (fun t_ k_ => XS.iloadN X16.here hx rfl (hb hby at_23) rfl k_) ?_
    show own_Go p e below _ T16 (mkF m 24 #[.val (.int k), .val (.int (5 : Int32)), .val (.ref u5), .unset] [(.int (5 : Int32))])
    refine own_st (fun t_ k_ => XS.iconst X16.here hx rfl (hb hby at_24) k_) ?_
    show own_Go p e below _ T16 (mkF m 25 #[.val (.int k), .val (.int (5 : Int32)), .val (.ref u5), .unset] [(.int (5 : Int32)), (.int (5 : Int32))])
    refine own_st (fun t_ k_ => XS.icmpNo X16.here hx rfl (hb hby at_25) rfl (by decide) k_) ?_
    show own_Go p e below _ T16 (mkF m 28 #[.val (.int k), .val (.int (5 : Int32)), .val (.ref u5), .unset] [])
    refine own_st (fun t_ k_ => XS.iconst X16.here hx rfl (hb hby at_28) k_) ?_
    show own_Go p e below _ T16 (mkF m 29 #[.val (.int k), .val (.int (5 : Int32)), .val (.ref u5), .unset] [(.int (1 : Int32))])
    refine own_st (fun t_ k_ => XS.goto X16.here hx rfl (pc0 := 29) (pc' := 33) rfl (hb hby at_29) (by decide) (by decide) k_) ?_
    show own_Go p e below _ T16 (mkF m 33 #[.val (.int k), .val (.int (5 : Int32)), .val (.ref u5), .unset] [(.int (1 : Int32))])
    refine own_st (fun t_ k_ => XS.istoreN X16.here hx rfl (hb hby at_33) rfl (l' := #[.val (.int k), .val (.int (5 : Int32)), .val (.ref u5), .val (.int (1 : Int32))]) rfl k_) ?_
    show own_Go p e below _ T16 (mkF m 34 #[.val (.int k), .val (.int (5 : Int32)), .val (.ref u5), .val (.int (1 : Int32))] [])
    refine own_st (fun t_ k_ => XS.aloadN X16.here hx rfl (hb hby at_34) rfl rfl k_) ?_
    show own_Go p e below _ T16 (mkF m 35 #[.val (.int k), .val (.int (5 : Int32)), .val (.ref u5), .val (.int (1 : Int32))] [(.ref u5)])
    obtain ⟨cq18, kq18, q18a, q18b, q18c⟩ := isOf hZ hh16 E5
    refine own_callV X16 hx (y := (⟨"com/example/kapu/kapu/service/ExtendedDecision", "isIndeterminate", "()Z"⟩ : MethodName)) (z := (⟨"com/example/kapu/kapu/service/ExtendedDecision", "isIndeterminate", "()Z"⟩ : MethodName)) hown (mvT hZ (hw _ (List.mem_of_getElem? (i := 8) rfl))) (mvT hZ (hw _ (List.mem_of_getElem? (i := 9) rfl))) (notFace_of_selects (args := #[]) (mvT hZ (hw _ (List.mem_of_getElem? (i := 11) rfl)))) (mvT hZ (hw _ (List.mem_of_getElem? (i := 11) rfl))) (mvT hZ (hw _ (List.mem_of_getElem? (i := 10) rfl))) (by decide) (backOf (W := 0) (rmI l Z a0 hw [] u5 dI dI (1 : Int32) h0 n0 Z0 F5 SI (if_pos rfl).symm) hZ (hw _ (List.mem_of_getElem? (i := 12) rfl)) (hw _ (List.mem_of_getElem? (i := 6) rfl)) (by decide) (by decide)) q18a q18c (g := (mkF m 35 #[.val (.int k), .val (.int (5 : Int32)), .val (.ref u5), .val (.int (1 : Int32))] [(.ref u5)])) rfl (by rw [hml]; rfl) (argsL := []) (rest := []) (lenOf pd_1 rfl) rfl (by show 2 * 0 + _ ≤ _; exact Nat.le_of_eq rfl) (hb hby at_35) rfl hh16 (by decide) (by decide) ?_
    rintro v17 T17 L17 X17 ⟨rfl, Nq17, hh17⟩
    have N17 := Fr.app N16 Nq17
    show own_Go p e below _ T17 (mkF m 38 #[.val (.int k), .val (.int (5 : Int32)), .val (.ref u5), .val (.int (1 : Int32))] [(.int (1 : Int32))])
    refine own_st (fun t_ k_ => XS.iloadN X17.here hx rfl (hb hby at_38) rfl k_) ?_
    show own_Go p e below _ T17 (mkF m 39 #[.val (.int k), .val (.int (5 : Int32)), .val (.ref u5), .val (.int (1 : Int32))] [(.int (1 : Int32)), (.int (1 : Int32))])
    refine own_st (fun t_ k_ => XS.icmpNo X17.here hx rfl (hb hby at_39) rfl (by decide) k_) ?_
    show own_Go p e below _ T17 (mkF m 42 #[.val (.int k), .val (.int (5 : Int32)), .val (.ref u5), .val (.int (1 : Int32))] [])
    refine own_st (fun t_ k_ => XS.iconst X17.here hx rfl (hb hby at_42) k_) ?_
    show own_Go p e below _ T17 (mkF m 43 #[.val (.int k), .val (.int (5 : Int32)), .val (.ref u5), .val (.int (1 : Int32))] [(.int (1 : Int32))])
    refine own_st (fun t_ k_ => XS.goto X17.here hx rfl (pc0 := 43) (pc' := 47) rfl (hb hby at_43) (by decide) (by decide) k_) ?_
    show own_Go p e below _ T17 (mkF m 47 #[.val (.int k), .val (.int (5 : Int32)), .val (.ref u5), .val (.int (1 : Int32))] [(.int (1 : Int32))])
    refine own_retN X17 hx hlk (t := .boolean) Bd.returns (by simp) (hb hby at_47) ?_ (by decide) (by decide)
    show Q0 n0 _ T17.heap _
    rw [hh17]
    exact ⟨rfl, N17⟩
set_option maxRecDepth 65536 in
set_option maxHeartbeats 40000000 in
theorem comes_1 {Post : Tables → Env → Array Value → State → Outcome → State → Prop} (hpost : ∀ tb e args s v u, (limb_1_1.after args s (.returned v) u = true ∧ limb_1_2.after args s (.returned v) u = true ∧ True) → FrameEnd s (.returned v) u (Jvm.fieldLocs frame_1_writes args s ++ Jvm.arrayLocs frame_1_arrays args s ++ Jvm.staticLocs frame_1_statics s) 0 0 → Post tb e args s (.returned v) u) :
    ArmFor flags0 classFile x code maxLocals ret World_1 tables_1 room_1 Calls_1 rest_1 Pre_1 Post := by
  intro l hfl _ _ p e ha hc hk s m args below hf hA hF happ hP
  obtain ⟨hcalls, hrest, hpre⟩ := hP
  obtain ⟨-, -, -, hnamed, -, -, -, hat⟩ := (Spec.applies_iff hf).mp happ
  obtain ⟨hg, hn⟩ := and_e (Cond.before_iff.mp (show (Jvm.Cond.and given_1 narrow_1).before args s = true from hpre))
  obtain ⟨g0, hg0⟩ := and_e hg
  obtain ⟨w0, rfl⟩ : ∃ w0 : Value, args = #[w0] := by
    have hs : args.size = 1 := by simpa [Cond.value, given_1] using g0
    obtain ⟨L⟩ := args
    match L, hs with
    | [w0], _ => exact ⟨w0, rfl⟩
  have hw := fun d (hd : d ∈ tables_1) => atoms_spec (ws := Jvm.Cond.code x code maxLocals ret :: tables_1) hat d (List.mem_cons_of_mem _ hd)
  have hfit : Fit s := fun {y c} hc i hi => by
    obtain ⟨ha, rfl⟩ := Array.getElem?_eq_some_iff.mp hc
    have q := List.all_eq_true.mp ((Array.all_eq_true_iff_forall_mem.mp hF) _ (Array.getElem_mem ha)) i (List.mem_range.mpr hi)
    simpa [Array.getElem?_eq_getElem hi] using q
  obtain ⟨i0, ei0⟩ := is_v hg0
  obtain rfl : w0 = (.int i0) := Option.some.inj ei0
  obtain ⟨n0, hn0⟩ := and_e hn
  obtain ⟨a0, ev0⟩ := exa_v n0
  have Xa0 := Exa.start ev0 n0
  have Sa0 := Sta.start ev0 (Or.inr ⟨(hw _ (List.mem_of_getElem? (i := 6) rfl)), (hw _ (List.mem_of_getElem? (i := 7) rfl))⟩)
  obtain ⟨n1, hn1⟩ := and_e hn0
  obtain ⟨a1, ev1⟩ := exa_v n1
  have Xa1 := Exa.start ev1 n1
  have Sa1 := Sta.start ev1 (Or.inr ⟨(hw _ (List.mem_of_getElem? (i := 15) rfl)), (hw _ (List.mem_of_getElem? (i := 16) rfl))⟩)
  obtain ⟨n2, hn2⟩ := and_e hn1
  have Fa2 := Fld.start (own_feqR n2 ev0 ev1)
  obtain ⟨n3, hn3⟩ := and_e hn2
  obtain ⟨a3, ev3⟩ := exa_v n3
  have Xa3 := Exa.start ev3 n3
  have Sa3 := Sta.start ev3 (Or.inr ⟨(hw _ (List.mem_of_getElem? (i := 15) rfl)), (hw _ (List.mem_of_getElem? (i := 18) rfl))⟩)
  obtain ⟨n4, hn4⟩ := and_e hn3
  have Fa4 := Fld.start (own_feqI n4 ev1)
  obtain ⟨n5, hn5⟩ := and_e hn4
  have Fa5 := Fld.start (own_feqI n5 ev3)
  obtain ⟨n6, hn6⟩ := and_e hn5
  obtain ⟨a6, ev6⟩ := exa_v n6
  have Xa6 := Exa.start ev6 n6
  have Sa6 := Sta.start ev6 (Or.inr ⟨(hw _ (List.mem_of_getElem? (i := 6) rfl)), (hw _ (List.mem_of_getElem? (i := 20) rfl))⟩)
  obtain ⟨n7, hn7⟩ := and_e hn6
  have Fa7 := Fld.start (own_feqR n7 ev6 ev3)
  obtain ⟨n8, hn8⟩ := and_e hn7
  obtain ⟨a8, ev8⟩ := exa_v n8
  have Xa8 := Exa.start ev8 n8
  have Sa8 := Sta.start ev8 (Or.inr ⟨(hw _ (List.mem_of_getElem? (i := 6) rfl)), (hw _ (List.mem_of_getElem? (i := 22) rfl))⟩)
  obtain ⟨n9, hn9⟩ := and_e hn8
  obtain ⟨a9, ev9⟩ := exa_v n9
  have Xa9 := Exa.start ev9 n9
  have Sa9 := Sta.start ev9 (Or.inr ⟨(hw _ (List.mem_of_getElem? (i := 15) rfl)), (hw _ (List.mem_of_getElem? (i := 23) rfl))⟩)
  obtain ⟨n10, hn10⟩ := and_e hn9
  have Fa10 := Fld.start (own_feqR n10 ev8 ev9)
  obtain ⟨n11, hn11⟩ := and_e hn10
  have Fa11 := Fld.start (own_feqI n11 ev9)
  obtain ⟨n12, hn12⟩ := and_e hn11
  obtain ⟨a12, ev12⟩ := exa_v n12
  have Xa12 := Exa.start ev12 n12
  have Sa12 := Sta.start ev12 (Or.inr ⟨(hw _ (List.mem_of_getElem? (i := 6) rfl)), (hw _ (List.mem_of_getElem? (i := 25) rfl))⟩)
  obtain ⟨n13, hn13⟩ := and_e hn12
  obtain ⟨a13, ev13⟩ := exa_v n13
  have Xa13 := Exa.start ev13 n13
  have Sa13 := Sta.start ev13 (Or.inr ⟨(hw _ (List.mem_of_getElem? (i := 15) rfl)), (hw _ (List.mem_of_getElem? (i := 26) rfl))⟩)
  obtain ⟨n14, hn14⟩ := and_e hn13
  have Fa14 := Fld.start (own_feqR n14 ev12 ev13)
  obtain ⟨n15, hn15⟩ := and_e hn14
  have Fa15 := Fld.start (own_feqI n15 ev13)
  obtain ⟨n16, hn16⟩ := and_e hn15
  obtain ⟨a16, ev16⟩ := exa_v n16
  have Xa16 := Exa.start ev16 n16
  have Sa16 := Sta.start ev16 (Or.inr ⟨(hw _ (List.mem_of_getElem? (i := 6) rfl)), (hw _ (List.mem_of_getElem? (i := 28) rfl))⟩)
  obtain ⟨n17, hn17⟩ := and_e hn16
  have Fa17 := Fld.start (own_feqR n17 ev16 ev3)
  obtain ⟨n18, hn18⟩ := and_e hn17
  obtain ⟨a18, ev18⟩ := exa_v n18
  have Xa18 := Exa.start ev18 n18
  have Sa18 := Sta.start ev18 (Or.inr ⟨(hw _ (List.mem_of_getElem? (i := 6) rfl)), (hw _ (List.mem_of_getElem? (i := 30) rfl))⟩)
  have Fa19 := Fld.start (own_feqR hn18 ev18 ev3)
  obtain ⟨n, o, h1, h2, h3, _, L, rfl, ⟨rfl, N⟩, hq⟩ := rm0 l s _ hw tables_1 i0 a0 a12 a8 a6 a18 a16 a1 a13 a9 a3 s.heap s.heap.size (Nat.le_refl _) Sa0 Sa12 Sa8 Sa6 Sa18 Sa16 Sa3 Fa2 Fa14 Fa10 Fa7 Fa19 Fa17 Xa0 Xa12 Xa8 Xa6 Xa18 Xa16 (Fld.ne Fa4 Fa5 (by decide)) (Fld.ne Fa15 Fa5 (by decide)) (Fld.ne Fa11 Fa5 (by decide)) p e ha hc hk s m _ below hf ((Spec.applies_iff_loose hf).mp happ).1 ⟨rfl, State.Warmed39.refl s, rfl⟩ trivial
  refine ⟨n, _, h1, h2, h3, hpost _ _ _ _ _ _ ⟨Cond.after_iff.mpr rfl, Cond.after_iff.mpr (eq_i res_at (Term.int_eval (1)) rfl), trivial⟩ ⟨hq.1, hq.2.1, (hq.2.2.sift fun y hy => Or.inr (N y hy)).mono (by decide) (by decide)⟩⟩
theorem main_1_1 : Claimed_1_1 := comes_1 fun _ _ _ _ _ _ h hF => ⟨h.1, hF⟩
theorem main_1_2 : Claimed_1_2 := comes_1 fun _ _ _ _ _ _ h hF => ⟨h.2.1, hF⟩
end Jvm.Pilot.@@N@@
namespace Jvm.Pilot.@@N@@
open Jvm Jvm.ClassFile Sem Op Lib Jvm.Free Jvm.Stand Jvm.Pilot.@@N@@.Jvm.D
/-! MADE BY PROGRAM (witnessworld.py) out of the Statement's table words and the real class files: 13 classes; the members and pool entries that the words name. The judged class is class 1, her method 2. -/
namespace start1
open Jvm.ClassFile
def u (s : String) : CpInfo := .utf8 (stringToUtf16 s)
/-- a pool by its gaps: so many unusable entries, then the entry; so many at the end -/
def gap : Nat → List CpInfo → List CpInfo
  | 0, r => r
  | n + 1, r => .unusable :: gap n r
def poolList (es : List (Nat × CpInfo)) (last : Nat) : List CpInfo := es.foldr (fun e r => gap e.1 (e.2 :: r)) (gap last [])
def pool (es : List (Nat × CpInfo)) (last : Nat) : Array CpInfo := ⟨poolList es last⟩
def fileOf (pool : Array CpInfo) (this : Nat) (attrs : Array Attribute := #[]) (ms : Array MethodInfo := #[]) (fl : Nat := 33) (sup : Nat := 0) (ifs : Array Nat := #[]) (fds : Array FieldInfo := #[]) : ClassFile where
  minorVersion := 0
  majorVersion := 65
  constantPool := pool
  accessFlags := fl
  thisClass := this
  superClass := sup
  interfaces := ifs
  fields := fds
  methods := ms
  attributes := attrs
def plain (name : String) (sup : Option ClassId) : Class where
  name := name
  kind := .ordinary
  loader := none
  accessFlags := 33
  super := sup
  interfaces := #[]
  cf := none
  fields := #[]
  methods := #[]
  instanceTypes := #[]
  staticTypes := #[]
  resolved := #[]
  callSites := []
  init := .initialized
  statics := none
  mirror := none

def pool0 : Array CpInfo := pool [(5, u "<init>"), (0, u "()V"), (1, .class_ 10), (1, u "java/lang/Object")] 113

def k0m0 : Method := { name := "<init>", desc := "()V", sig := { parameters := [], returnType := none }, accessFlags := 1, code := none }
/-- java/lang/Object -/
def k0 : Class := { plain "java/lang/Object" none with
  accessFlags := 33
  interfaces := #[]
  cf := some (fileOf pool0 8 #[] #[{ accessFlags := 1, nameIndex := 5, descriptorIndex := 6, attributes := #[] }] 33 0 #[] #[])
  fields := #[]
  methods := #[k0m0]
  instanceTypes := #[]
  staticTypes := #[]
  resolved := Array.replicate 124 none
  statics := none }

def pool1 : Array CpInfo := pool [(2, .class_ 4), (1, u "java/lang/Object"), (0, u "<init>"), (0, u "()V"), (0, .fieldref 8 9), (0, .class_ 10), (0, .nameAndType 11 12), (0, u "com/example/kapu/kapu/service/ExtendedDecision"), (0, u "PERMIT"), (0, u "Lcom/example/kapu/kapu/service/ExtendedDecision;"), (0, .fieldref 8 14), (0, .nameAndType 15 12), (0, u "DENY"), (0, .fieldref 8 17), (0, .nameAndType 18 12), (0, u "NOT_APPLICABLE"), (0, .fieldref 8 20), (0, .nameAndType 21 12), (0, u "INDETERMINATE_D"), (0, .fieldref 8 23), (0, .nameAndType 24 12), (0, u "INDETERMINATE_P"), (0, .fieldref 8 26), (0, .nameAndType 27 12), (0, u "INDETERMINATE_DP"), (0, .integer 2147483647), (0, .methodref 30 31), (0, .class_ 32), (0, .nameAndType 33 34), (0, u "com/example/kapu/kapu/service/ExtendedDecisionIsIndeterminatePinLaw"), (0, u "pick"), (0, u "(I)Lcom/example/kapu/kapu/service/ExtendedDecision;"), (0, .methodref 8 36), (0, .nameAndType 37 38), (0, u "isIndeterminate"), (0, u "()Z"), (3, u "law"), (0, u "(I)Z")] 2

def k1m0 : Method := { name := "<init>", desc := "()V", sig := { parameters := [], returnType := none }, accessFlags := 2, code := none }
def k1c1 : Code := { maxStack := 2, maxLocals := 1, code := method_2_code, exceptionTable := #[], attributes := #[] }
def k1m1 : Method := { name := "pick", desc := "(I)Lcom/example/kapu/kapu/service/ExtendedDecision;", sig := { parameters := [.int], returnType := some (.object "com/example/kapu/kapu/service/ExtendedDecision") }, accessFlags := 10, code := some k1c1 }
def k1c2 : Code := { maxStack := 2, maxLocals := 4, code := code, exceptionTable := #[], attributes := #[] }
def k1m2 : Method := { name := "law", desc := "(I)Z", sig := { parameters := [.int], returnType := some .boolean }, accessFlags := 9, code := some k1c2 }
/-- com/example/kapu/kapu/service/ExtendedDecisionIsIndeterminatePinLaw -/
def k1 : Class := { plain "com/example/kapu/kapu/service/ExtendedDecisionIsIndeterminatePinLaw" (some 0) with
  accessFlags := 49
  interfaces := #[]
  cf := some (fileOf pool1 30 #[] #[{ accessFlags := 2, nameIndex := 5, descriptorIndex := 6, attributes := #[] }, { accessFlags := 10, nameIndex := 33, descriptorIndex := 34, attributes := #[] }, { accessFlags := 9, nameIndex := 42, descriptorIndex := 43, attributes := #[] }] 49 2 #[] #[])
  fields := #[]
  methods := #[k1m0, k1m1, k1m2]
  instanceTypes := #[]
  staticTypes := #[]
  resolved := Array.replicate 46 none
  statics := none }

def pool2 : Array CpInfo := pool [(1, .class_ 2), (0, u "java/lang/constant/Constable"), (0, .class_ 4), (0, u "java/lang/Object")] 6

/-- java/lang/constant/Constable -/
def k2 : Class := { plain "java/lang/constant/Constable" (some 0) with
  accessFlags := 1537
  interfaces := #[]
  cf := some (fileOf pool2 1 #[] #[] 1537 3 #[] #[])
  fields := #[]
  methods := #[]
  instanceTypes := #[]
  staticTypes := #[]
  resolved := Array.replicate 11 none
  statics := none }

def pool3 : Array CpInfo := pool [(1, .class_ 2), (0, u "java/lang/Comparable"), (0, .class_ 4), (0, u "java/lang/Object")] 7

/-- java/lang/Comparable -/
def k3 : Class := { plain "java/lang/Comparable" (some 0) with
  accessFlags := 1537
  interfaces := #[]
  cf := some (fileOf pool3 1 #[] #[] 1537 3 #[] #[])
  fields := #[]
  methods := #[]
  instanceTypes := #[]
  staticTypes := #[]
  resolved := Array.replicate 12 none
  statics := none }

def pool4 : Array CpInfo := pool [(1, .class_ 2), (0, u "java/io/Serializable"), (0, .class_ 4), (0, u "java/lang/Object")] 2

/-- java/io/Serializable -/
def k4 : Class := { plain "java/io/Serializable" (some 0) with
  accessFlags := 1537
  interfaces := #[]
  cf := some (fileOf pool4 1 #[] #[] 1537 3 #[] #[])
  fields := #[]
  methods := #[]
  instanceTypes := #[]
  staticTypes := #[]
  resolved := Array.replicate 7 none
  statics := none }

def pool5 : Array CpInfo := pool [(2, .class_ 4), (1, u "java/lang/Enum"), (0, u "name"), (0, u "Ljava/lang/String;"), (2, u "ordinal"), (0, u "I"), (1, .class_ 14), (1, u "java/lang/Object"), (4, u "hash"), (86, .class_ 108), (1, u "java/lang/Enum$EnumDesc"), (2, .class_ 112), (0, u "java/lang/constant/Constable"), (0, .class_ 114), (0, u "java/lang/Comparable"), (0, .class_ 116), (0, u "java/io/Serializable")] 87

/-- java/lang/Enum -/
def k5 : Class := { plain "java/lang/Enum" (some 0) with
  accessFlags := 1057
  interfaces := #[2, 3, 4]
  cf := some (fileOf pool5 2 #[.nestMembers #[106]] #[] 1057 12 #[111, 113, 115] #[{ accessFlags := 18, nameIndex := 5, descriptorIndex := 6, attributes := #[] }, { accessFlags := 18, nameIndex := 9, descriptorIndex := 10, attributes := #[] }, { accessFlags := 2, nameIndex := 19, descriptorIndex := 10, attributes := #[] }])
  fields := #[{ name := "name", type := (.object "java/lang/String"), accessFlags := 18, slot := 0, constantValue := 0 }, { name := "ordinal", type := .int, accessFlags := 18, slot := 1, constantValue := 0 }, { name := "hash", type := .int, accessFlags := 2, slot := 2, constantValue := 0 }]
  methods := #[]
  instanceTypes := #[(.object "java/lang/String"), .int, .int]
  staticTypes := #[]
  resolved := Array.replicate 204 none
  statics := none }

def pool6 : Array CpInfo := pool [(1, .class_ 2), (0, u "com/example/kapu/kapu/service/ExtendedDecision"), (2, u "PERMIT"), (0, u "Lcom/example/kapu/kapu/service/ExtendedDecision;"), (2, u "DENY"), (2, u "NOT_APPLICABLE"), (2, u "INDETERMINATE_D"), (2, u "INDETERMINATE_P"), (2, u "INDETERMINATE_DP"), (2, u "$VALUES"), (0, u "[Lcom/example/kapu/kapu/service/ExtendedDecision;"), (6, .class_ 34), (1, u "java/lang/Enum"), (6, .fieldref 1 42), (0, .nameAndType 43 44), (0, u "decision"), (0, u "Lcom/example/kapu/kapu/model/Decision;"), (23, .fieldref 69 70), (0, .class_ 71), (0, .nameAndType 72 44), (0, u "com/example/kapu/kapu/model/Decision"), (0, u "INDETERMINATE"), (33, u "isIndeterminate"), (0, u "()Z")] 20

def k6c0 : Code := { maxStack := 2, maxLocals := 1, code := prog_100_method_7_code, exceptionTable := #[], attributes := #[] }
def k6m0 : Method := { name := "isIndeterminate", desc := "()Z", sig := { parameters := [], returnType := some .boolean }, accessFlags := 0, code := some k6c0 }
/-- com/example/kapu/kapu/service/ExtendedDecision -/
def k6 : Class := { plain "com/example/kapu/kapu/service/ExtendedDecision" (some 5) with
  accessFlags := 16432
  interfaces := #[]
  cf := some (fileOf pool6 1 #[] #[{ accessFlags := 0, nameIndex := 106, descriptorIndex := 107, attributes := #[] }] 16432 32 #[] #[{ accessFlags := 16409, nameIndex := 5, descriptorIndex := 6, attributes := #[] }, { accessFlags := 16409, nameIndex := 9, descriptorIndex := 6, attributes := #[] }, { accessFlags := 16409, nameIndex := 12, descriptorIndex := 6, attributes := #[] }, { accessFlags := 16409, nameIndex := 15, descriptorIndex := 6, attributes := #[] }, { accessFlags := 16409, nameIndex := 18, descriptorIndex := 6, attributes := #[] }, { accessFlags := 16409, nameIndex := 21, descriptorIndex := 6, attributes := #[] }, { accessFlags := 18, nameIndex := 43, descriptorIndex := 44, attributes := #[] }, { accessFlags := 4122, nameIndex := 24, descriptorIndex := 25, attributes := #[] }])
  fields := #[{ name := "PERMIT", type := (.object "com/example/kapu/kapu/service/ExtendedDecision"), accessFlags := 16409, slot := 0, constantValue := 0 }, { name := "DENY", type := (.object "com/example/kapu/kapu/service/ExtendedDecision"), accessFlags := 16409, slot := 1, constantValue := 0 }, { name := "NOT_APPLICABLE", type := (.object "com/example/kapu/kapu/service/ExtendedDecision"), accessFlags := 16409, slot := 2, constantValue := 0 }, { name := "INDETERMINATE_D", type := (.object "com/example/kapu/kapu/service/ExtendedDecision"), accessFlags := 16409, slot := 3, constantValue := 0 }, { name := "INDETERMINATE_P", type := (.object "com/example/kapu/kapu/service/ExtendedDecision"), accessFlags := 16409, slot := 4, constantValue := 0 }, { name := "INDETERMINATE_DP", type := (.object "com/example/kapu/kapu/service/ExtendedDecision"), accessFlags := 16409, slot := 5, constantValue := 0 }, { name := "decision", type := (.object "com/example/kapu/kapu/model/Decision"), accessFlags := 18, slot := 3, constantValue := 0 }, { name := "$VALUES", type := (.array (.object "com/example/kapu/kapu/service/ExtendedDecision")), accessFlags := 4122, slot := 6, constantValue := 0 }]
  methods := #[k6m0]
  instanceTypes := #[(.object "java/lang/String"), .int, .int, (.object "com/example/kapu/kapu/model/Decision")]
  staticTypes := #[(.object "com/example/kapu/kapu/service/ExtendedDecision"), (.object "com/example/kapu/kapu/service/ExtendedDecision"), (.object "com/example/kapu/kapu/service/ExtendedDecision"), (.object "com/example/kapu/kapu/service/ExtendedDecision"), (.object "com/example/kapu/kapu/service/ExtendedDecision"), (.object "com/example/kapu/kapu/service/ExtendedDecision"), (.array (.object "com/example/kapu/kapu/service/ExtendedDecision"))]
  resolved := Array.replicate 128 none
  statics := some 0 }

def pool7 : Array CpInfo := pool [(1, .class_ 2), (0, u "com/example/kapu/kapu/model/Decision"), (2, u "PERMIT"), (0, u "Lcom/example/kapu/kapu/model/Decision;"), (2, u "DENY"), (2, u "NOT_APPLICABLE"), (2, u "INDETERMINATE"), (2, u "$VALUES"), (0, u "[Lcom/example/kapu/kapu/model/Decision;"), (6, .class_ 28), (1, u "java/lang/Enum"), (8, u "xacmlName"), (0, u "Ljava/lang/String;")] 86

/-- com/example/kapu/kapu/model/Decision -/
def k7 : Class := { plain "com/example/kapu/kapu/model/Decision" (some 5) with
  accessFlags := 16433
  interfaces := #[]
  cf := some (fileOf pool7 1 #[] #[] 16433 26 #[] #[{ accessFlags := 16409, nameIndex := 5, descriptorIndex := 6, attributes := #[] }, { accessFlags := 16409, nameIndex := 9, descriptorIndex := 6, attributes := #[] }, { accessFlags := 16409, nameIndex := 12, descriptorIndex := 6, attributes := #[] }, { accessFlags := 16409, nameIndex := 15, descriptorIndex := 6, attributes := #[] }, { accessFlags := 18, nameIndex := 37, descriptorIndex := 38, attributes := #[] }, { accessFlags := 4122, nameIndex := 18, descriptorIndex := 19, attributes := #[] }])
  fields := #[{ name := "PERMIT", type := (.object "com/example/kapu/kapu/model/Decision"), accessFlags := 16409, slot := 0, constantValue := 0 }, { name := "DENY", type := (.object "com/example/kapu/kapu/model/Decision"), accessFlags := 16409, slot := 1, constantValue := 0 }, { name := "NOT_APPLICABLE", type := (.object "com/example/kapu/kapu/model/Decision"), accessFlags := 16409, slot := 2, constantValue := 0 }, { name := "INDETERMINATE", type := (.object "com/example/kapu/kapu/model/Decision"), accessFlags := 16409, slot := 3, constantValue := 0 }, { name := "xacmlName", type := (.object "java/lang/String"), accessFlags := 18, slot := 3, constantValue := 0 }, { name := "$VALUES", type := (.array (.object "com/example/kapu/kapu/model/Decision")), accessFlags := 4122, slot := 4, constantValue := 0 }]
  methods := #[]
  instanceTypes := #[(.object "java/lang/String"), .int, .int, (.object "java/lang/String")]
  staticTypes := #[(.object "com/example/kapu/kapu/model/Decision"), (.object "com/example/kapu/kapu/model/Decision"), (.object "com/example/kapu/kapu/model/Decision"), (.object "com/example/kapu/kapu/model/Decision"), (.array (.object "com/example/kapu/kapu/model/Decision"))]
  resolved := Array.replicate 125 none
  statics := some 1 }

def pool8 : Array CpInfo := pool [(1, u "java/lang/Cloneable"), (0, .class_ 1), (0, u "java/lang/Object"), (0, .class_ 3)] 3

/-- java/lang/Cloneable -/
def k8 : Class := { plain "java/lang/Cloneable" (some 0) with
  accessFlags := 1537
  interfaces := #[]
  cf := some (fileOf pool8 2 #[] #[] 1537 4 #[] #[])
  fields := #[]
  methods := #[]
  instanceTypes := #[]
  staticTypes := #[]
  resolved := Array.replicate 8 none
  statics := none }

/-- the primitive byte -/
def k9 : Class := { plain "byte" none with kind := .primitive 'B', accessFlags := 0x411 }
/-- [B -/
def k10 : Class := { plain "[B" (some 0) with kind := .array 9 .byte, interfaces := #[8, 4], accessFlags := 1041 }

/-- the primitive int -/
def k11 : Class := { plain "int" none with kind := .primitive 'I', accessFlags := 0x411 }
/-- [I -/
def k12 : Class := { plain "[I" (some 0) with kind := .array 11 .int, interfaces := #[8, 4], accessFlags := 1041 }

def heap : Heap := #[{ cls := 6, slots := #[.ref 6, .ref 7, .ref 8, .ref 9, .ref 10, .ref 11, .null], vm := .statics 6 },
  { cls := 7, slots := #[.ref 2, .ref 3, .ref 4, .ref 5, .null], vm := .statics 7 },
  { cls := 7, slots := #[.null, .int 0, .int 0, .null], vm := .none },
  { cls := 7, slots := #[.null, .int 1, .int 0, .null], vm := .none },
  { cls := 7, slots := #[.null, .int 2, .int 0, .null], vm := .none },
  { cls := 7, slots := #[.null, .int 3, .int 0, .null], vm := .none },
  { cls := 6, slots := #[.null, .int 0, .int 0, .ref 2], vm := .none },
  { cls := 6, slots := #[.null, .int 1, .int 0, .ref 3], vm := .none },
  { cls := 6, slots := #[.null, .int 2, .int 0, .ref 4], vm := .none },
  { cls := 6, slots := #[.null, .int 3, .int 0, .ref 5], vm := .none },
  { cls := 6, slots := #[.null, .int 4, .int 0, .ref 5], vm := .none },
  { cls := 6, slots := #[.null, .int 5, .int 0, .ref 5], vm := .none }]
def classes : Array Class := #[k0, k1, k2, k3, k4, k5, k6, k7, k8, k9, k10, k11, k12]
def interned : List (Array UInt16 × Addr) := []
def slotsUsed : Nat := 52
def theMethod : MethodId := ⟨1, 2⟩
def args0 : Array Value := #[.int 5]
def aboutOver (below : List Frame) : State where
  vm := { classes := classes, interned := interned.toArray }
  heap := heap
  slotsUsed := slotsUsed
  threads := #[{ frames := .invoking theMethod args0 :: below }]
def below0 : List Frame := [.native { method := ⟨0, 0⟩, args := #[] }]
def about1 : State := aboutOver below0
def p0 : Program := .bare "" "" ""
def e0 : Env := launch0.env 0 0 0
theorem w_frames : about1.frames = Frame.invoking theMethod args0 :: below0 := rfl
set_option maxRecDepth 65536 in
theorem w_args : argsFit about1.vm theMethod args0 = true := by decide +kernel
set_option maxRecDepth 65536 in
theorem w_heap : heapFits about1 = true := by decide +kernel
set_option maxRecDepth 65536 in
theorem w_runnable : about1.curStatus? = some .runnable := by decide +kernel
set_option maxRecDepth 65536 in
theorem w_alone : about1.alone = true := by decide +kernel
set_option maxRecDepth 65536 in
theorem w_named : about1.methodNamed? x = some theMethod := by decide +kernel
set_option maxRecDepth 65536 in
theorem w_hears : about1.hears theMethod below0 = true := by decide +kernel
set_option maxRecDepth 65536 in
theorem w_ripe : about1.ripe theMethod args0 below0 = true := by decide +kernel
theorem w_running : about1.status = .running := rfl
set_option maxRecDepth 65536 in
theorem w_room : about1.hasRoom e0.platform room_1 = true :=
  launch0.hasRoom_least _ room_1 (by decide +kernel) (by decide +kernel) (by decide +kernel) (by decide +kernel) (by decide +kernel) (by decide +kernel)
theorem allAtoms_all (ts : List Jvm.Cond) (a : Array Jvm.Value) (st : Jvm.State) : (allAtoms ts).before a st = ts.all (fun c => c.before a st) := by
  induction ts with
  | nil => rfl
  | cons c t ih =>
    show (Jvm.Cond.and c (allAtoms t)).before a st = _
    rw [Jvm.Cond.before_and, ih, List.all_cons]
def words1 : List Jvm.Cond := Jvm.Cond.code x code maxLocals ret :: tables_1
/-- a 'code' word, met by the world's own term for the bytes: nothing is compared byte by byte -/
theorem code_word {y : MethodName} {bytes : ByteArray} {mx : Nat} {rt : Option FieldType} {a : Array Value} {s : State} {m : MethodId} {meth : Method} {c : Code} (h1 : s.methodNamed? y = some m) (h2 : s.vm.method? m = some meth) (h3 : meth.code = some c) (h4 : c.code = bytes)
    (h5 : (c.maxLocals == mx && c.exceptionTable.isEmpty && decide (c.maxStack ≤ mostOperands) && decide (meth.sig.returnType = rt) && !meth.locks && decide (parseMethodDescriptor y.desc = some meth.sig)) = true) : (Jvm.Cond.code y bytes mx rt).before a s = true := by
  simp only [Bool.and_eq_true, beq_iff_eq, Bool.not_eq_true', decide_eq_true_eq] at h5
  obtain ⟨⟨⟨⟨⟨g1, g2⟩, g3⟩, g4⟩, g5⟩, g6⟩ := h5
  simp [Cond.before, Cond.holds, Cond.value, h1, h2, h3, h4, g1, g2, g3, g4, g5, g6]
def isCode : Jvm.Cond → Bool
  | .code _ _ _ _ => true
  | _ => false
theorem all_split {L : List Jvm.Cond} {P : Jvm.Cond → Bool} (h1 : L.all (fun c => isCode c || P c) = true) (h2 : ∀ c ∈ L.filter isCode, P c = true) : L.all P = true := by
  refine List.all_eq_true.mpr fun c hc => ?_
  have h := List.all_eq_true.mp h1 c hc
  rcases Bool.eq_false_or_eq_true (isCode c) with hi | hi
  · exact h2 c (List.mem_filter.mpr ⟨hc, hi⟩)
  · simpa [hi] using h
set_option maxRecDepth 65536 in
theorem w_c0 : (Jvm.Cond.code x code maxLocals ret).before args0 about1 = true := code_word (m := ⟨1, 2⟩) (meth := k1m2) (c := k1c2) (by decide +kernel) rfl rfl rfl (by decide +kernel)
set_option maxRecDepth 65536 in
theorem w_c1 : (Jvm.Cond.code ({ cls := "com/example/kapu/kapu/service/ExtendedDecisionIsIndeterminatePinLaw", name := "pick", desc := "(I)Lcom/example/kapu/kapu/service/ExtendedDecision;" } : Jvm.MethodName) method_2_code (1 : Nat) (Option.some (Jvm.ClassFile.FieldType.object "com/example/kapu/kapu/service/ExtendedDecision"))).before args0 about1 = true := code_word (m := ⟨1, 1⟩) (meth := k1m1) (c := k1c1) (by decide +kernel) rfl rfl rfl (by decide +kernel)
set_option maxRecDepth 65536 in
theorem w_c2 : (Jvm.Cond.code ({ cls := "com/example/kapu/kapu/service/ExtendedDecision", name := "isIndeterminate", desc := "()Z" } : Jvm.MethodName) prog_100_method_7_code (1 : Nat) (Option.some Jvm.ClassFile.FieldType.boolean)).before args0 about1 = true := code_word (m := ⟨6, 0⟩) (meth := k6m0) (c := k6c0) (by decide +kernel) rfl rfl rfl (by decide +kernel)
def codes1 : List Jvm.Cond := [Jvm.Cond.code x code maxLocals ret, Jvm.Cond.code ({ cls := "com/example/kapu/kapu/service/ExtendedDecisionIsIndeterminatePinLaw", name := "pick", desc := "(I)Lcom/example/kapu/kapu/service/ExtendedDecision;" } : Jvm.MethodName) method_2_code (1 : Nat) (Option.some (Jvm.ClassFile.FieldType.object "com/example/kapu/kapu/service/ExtendedDecision")), Jvm.Cond.code ({ cls := "com/example/kapu/kapu/service/ExtendedDecision", name := "isIndeterminate", desc := "()Z" } : Jvm.MethodName) prog_100_method_7_code (1 : Nat) (Option.some Jvm.ClassFile.FieldType.boolean)]
set_option maxRecDepth 65536 in
theorem codes_eq : words1.filter isCode = codes1 := rfl
theorem w_codes : ∀ c ∈ words1.filter isCode, c.before args0 about1 = true := by
  rw [codes_eq]
  intro c hc
  simp only [codes1, List.mem_cons, List.not_mem_nil, or_false] at hc
  rcases hc with rfl | rfl | rfl
  · exact w_c0
  · exact w_c1
  · exact w_c2
set_option maxRecDepth 65536 in
theorem w_t1 : (words1.take 24).all (fun c => isCode c || c.before args0 about1) = true := by decide +kernel
set_option maxRecDepth 65536 in
theorem w_t2 : (words1.drop 24).all (fun c => isCode c || c.before args0 about1) = true := by decide +kernel
theorem w_tables : (allAtoms (Jvm.Cond.code x code maxLocals ret :: tables_1)).before args0 about1 = true := by
  rw [allAtoms_all]
  show words1.all (fun c => c.before args0 about1) = true
  refine all_split ?_ w_codes
  rw [← List.take_append_drop 24 words1, List.all_append, w_t1, w_t2]
  rfl
set_option maxRecDepth 65536 in
theorem w_case : (Jvm.Cond.and given_1 narrow_1).before args0 about1 = true := by decide +kernel
theorem w_applies : (headSpec (Jvm.Cond.code x code maxLocals ret :: tables_1) room_1).applies x e0.platform about1 = true :=
  (Spec.applies_iff w_frames).mpr ⟨w_running, w_runnable, w_alone, w_named, w_hears, w_ripe, w_room, w_tables⟩
theorem atStart : AtStart classFile x code maxLocals ret World_1 tables_1 room_1 Calls_1 rest_1 Pre_1 launch0 p0 e0 about1 theMethod args0 below0 :=
  ⟨lists_1, trivial, launch0.admits_env _ _ _, launch0.least_env, fairChoices_fair.cas, fairChoices_fair.clock, w_frames, w_args, w_heap, w_applies, trivial, trivial, w_case⟩
end start1
theorem witness_1 : WitnessClaimed_1 := ⟨start1.p0, start1.e0, start1.about1, start1.theMethod, start1.args0, start1.below0, start1.atStart⟩
end Jvm.Pilot.@@N@@
