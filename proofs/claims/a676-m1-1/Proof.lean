import JvmDerived
import JvmDerived.Pilot.@@N@@Statement
import JvmDerived.Pilot.@@N@@Code
set_option linter.unusedVariables false
set_option linter.unusedSimpArgs false
namespace Jvm.Pilot.@@N@@
open Jvm Jvm.ClassFile Sem Op Lib Jvm.Free Jvm.Stand Jvm.LawKit Jvm.RoadKit Bundle Jvm.Pilot.@@N@@.Jvm.D
/-! A walk by continuations: own_Go says that from here the body runs to an end that P allows. -/
def own_Go (p : Program) (e : Env) (below : List Frame) (P : Outcome → State → Prop) (T : State) (g : JFrame) : Prop :=
  ∃ s₂ o, Steps p.tables e below (T.setTop g) s₂ ∧ s₂.status = .running ∧ Ended s₂ below o ∧ P o s₂
abbrev own_End (s : State) (Q : Option Value → Heap → List Loc → Prop) (C S : Nat) : Outcome → State → Prop := fun o s₂ => ∃ v L, o = .returned v ∧ Q v s₂.heap L ∧ FrameEnd s o s₂ L C S
theorem own_pc {m : MethodId} {pc : Nat} {Ls : Array Slot} {st : List Value} {off : Int} (h : 0 ≤ (pc : Int) + off) : 0 ≤ ((mkF m pc Ls st).pc : Int) + off := h
section Own
variable {p : Program} {l : Launch} {e : Env} {R : Room} {s : State} {m : MethodId} {args : Array Value} {below : List Frame} {meth : Method} {c : Code} {T T' : State} {locs : List Loc} {cells slots : Nat} {P : Outcome → State → Prop} {g g' : JFrame} {Q : Option Value → Heap → List Loc → Prop} {C S : Nat}
theorem own_st (h : ∀ t, Steps p.tables e below (T'.setTop g') t → Steps p.tables e below (T.setTop g) t) (k : own_Go p e below P T' g') : own_Go p e below P T g := by
  obtain ⟨s₂, o, h1, r⟩ := k
  exact ⟨s₂, o, h _ h1, r⟩
theorem own_entry (q : g = g') (k : own_Go p e below P T g') : ∃ s₂ o, Steps p.tables e below (T.setTop g) s₂ ∧ s₂.status = .running ∧ Ended s₂ below o ∧ P o s₂ := by
  subst q
  exact k
theorem own_join {α : Type} {F : α → Prop} {g' : α → JFrame} {T' : State} (k : ∀ b, F b → own_Go p e below P T' (g' b)) (j : (∀ b, F b → own_Go p e below P T' (g' b)) → own_Go p e below P T g) : own_Go p e below P T g := j k
theorem own_leave (X : Stand p l e R s m args below meth c T locs cells slots) (hlk : meth.locks = false) {v : Option Value} (hv : meth.sig.returnType = none → v = none)
    (k : ∀ fs, (∀ (f : JFrame) (acts : List Action), f.method = m → f.locked = none → f.entered = [] → (doReturn e (T.setTop f) acts v).1 = T.setFrames fs) → Steps p.tables e below (T.setTop g) (T.setFrames fs))
    (hQ : Q v T.heap locs) (hC : cells ≤ C) (hS : slots ≤ S) : own_Go p e below (own_End s Q C S) T g := by
  obtain ⟨fs, hr, hrun, hended, hW, hsame⟩ := X.leave hv hlk
  exact ⟨_, _, k fs hr, hrun, hended, _, _, rfl, hQ, ⟨_, rfl⟩, hW, hsame.mono hC hS⟩
theorem own_retN (X : Stand p l e R s m args below meth c T locs cells slots) (hx : p.tables.exec = Jvm.exec) (hlk : meth.locks = false) {pc : Nat} {Ls : Array Slot} {z : Int32} {t : FieldType} {rest : List Value} (hret : meth.sig.returnType = some t) (ht : t = .boolean ∨ t = .byte ∨ t = .char ∨ t = .short)
    (hd : decode c.code pc = .ok (.ireturn, 1)) (hQ : Q (some (.int (nar t z))) T.heap locs) (hC : cells ≤ C) (hS : slots ≤ S) : own_Go p e below (own_End s Q C S) T (mkF m pc Ls (.int z :: rest)) :=
  own_leave X hlk (fun h => by rw [hret] at h; cases h) (fun fs hr => retN X hx hret ht hd hr) hQ hC hS
theorem own_retI (X : Stand p l e R s m args below meth c T locs cells slots) (hx : p.tables.exec = Jvm.exec) (hlk : meth.locks = false) {pc : Nat} {Ls : Array Slot} {z : Int32} {rest : List Value} (hret : meth.sig.returnType = some .int)
    (hd : decode c.code pc = .ok (.ireturn, 1)) (hQ : Q (some (.int z)) T.heap locs) (hC : cells ≤ C) (hS : slots ≤ S) : own_Go p e below (own_End s Q C S) T (mkF m pc Ls (.int z :: rest)) :=
  own_leave X hlk (fun h => by rw [hret] at h; cases h) (fun fs hr => retOut X hx hret rfl (Or.inl ⟨rfl, Or.inl rfl, z, rfl⟩) hd hr) hQ hC hS
theorem own_retJ (X : Stand p l e R s m args below meth c T locs cells slots) (hx : p.tables.exec = Jvm.exec) (hlk : meth.locks = false) {pc : Nat} {Ls : Array Slot} {z : Int64} {rest : List Value} (hret : meth.sig.returnType = some .long)
    (hd : decode c.code pc = .ok (.lreturn, 1)) (hQ : Q (some (.long z)) T.heap locs) (hC : cells ≤ C) (hS : slots ≤ S) : own_Go p e below (own_End s Q C S) T (mkF m pc Ls (.long z :: rest)) :=
  own_leave X hlk (fun h => by rw [hret] at h; cases h) (fun fs hr => retOut X hx hret rfl (Or.inr (Or.inl ⟨rfl, rfl, z, rfl⟩)) hd hr) hQ hC hS
theorem own_narrow_ref {t : FieldType} {w : Value} (ht : t.isReference = true) : narrow t w = w := by cases t <;> first | rfl | cases ht
theorem own_retA (X : Stand p l e R s m args below meth c T locs cells slots) (hx : p.tables.exec = Jvm.exec) (hlk : meth.locks = false) {pc : Nat} {Ls : Array Slot} {w : Value} {t : FieldType} {rest : List Value} (hret : meth.sig.returnType = some t) (ht : t.isReference = true) (hw : w.isRef = true)
    (hd : decode c.code pc = .ok (.areturn, 1)) (hQ : Q (some w) T.heap locs) (hC : cells ≤ C) (hS : slots ≤ S) : own_Go p e below (own_End s Q C S) T (mkF m pc Ls (w :: rest)) :=
  own_leave X hlk (fun h => by rw [hret] at h; cases h) (fun fs hr => retOut X hx hret (own_narrow_ref ht) (Or.inr (Or.inr (Or.inr (Or.inr ⟨rfl, ht, hw⟩)))) hd hr) hQ hC hS
theorem own_ret0 (X : Stand p l e R s m args below meth c T locs cells slots) (hx : p.tables.exec = Jvm.exec) (hlk : meth.locks = false) {pc : Nat} {Ls : Array Slot} (hret : meth.sig.returnType = none)
    (hd : decode c.code pc = .ok (.return_, 1)) (hQ : Q none T.heap locs) (hC : cells ≤ C) (hS : slots ≤ S) : own_Go p e below (own_End s Q C S) T (mkF m pc Ls []) :=
  own_leave X hlk (fun _ => rfl) (fun fs hr => X.returnOut hx hret hd hr) hQ hC hS
theorem own_callS (X : Stand p l e R s m args below meth c T locs cells slots) (hx : p.tables.exec = Jvm.exec) {own : String} {index : Nat} {y : MethodName} {bytes : ByteArray} {maxL : Nat} {ret : Option FieldType}
    (hown : s.vm.findClass own = some m.cls) (hlink : (Cond.methodLink own index y).before args s = true) (hstat : (Cond.static y).before args s = true) (hinit : (Cond.initialized y.cls).before args s = true)
    (hcode : (Cond.code y bytes maxL ret).before args s = true) (hy : y.cls ≠ "java/lang/invoke/MethodHandle" ∧ y.cls ≠ "java/lang/invoke/VarHandle")
    {W rc rs : Nat} {as' : Array Value} {h : Heap} {Qc : Option Value → Heap → List Loc → Prop}
    (hK : Back l R p e below s args y 3 W (fun A a => a = as' ∧ A.U.heap = h ∧ A.cells + rc ≤ R.cells ∧ A.slots + rs ≤ R.slots) (fun A _ v B => ∃ L, Qc v B.U.heap L ∧ B.locs = A.locs ++ L ∧ B.cells = A.cells + rc ∧ B.slots = A.slots + rs))
    (hg : g.method = m) (hsize : g.locals.size = c.maxLocals) {argsL rest : List Value} (hlen : ∀ sig, parseMethodDescriptor y.desc = some sig → argsL.length = sig.parameters.length)
    (hstack : g.stack = argsL.reverse ++ rest) (hW : 2 * g.monitorRoom + (rest.map fun v => v.category).sum ≤ W) (hdg : decode c.code g.pc = .ok (.invokestatic index, 3))
    (ha : argsL.toArray = as') (eT : T.heap = h) (hc : cells + rc ≤ R.cells) (hs : slots + rs ≤ R.slots)
    (k : ∀ v T' L, Stand p l e R s m args below meth c T' (locs ++ L) (cells + rc) (slots + rs) → Qc v T'.heap L → own_Go p e below P T' { g with pc := g.pc + 3, stack := v.toList ++ rest }) : own_Go p e below P T g := by
  obtain ⟨v, vm₁, ⟨T', L', k', n'⟩, -, X', ⟨L, hQ, l1, y1, z1⟩, st⟩ := Jvm.LawKit.callS X hx hown hlink hstat hinit hcode hy hK hg hsize hlen hstack hW hdg (fun _ _ => ⟨ha, eT, hc, hs⟩)
  dsimp only [Pt.U, Pt.locs, Pt.cells, Pt.slots] at X' l1 y1 z1 st hQ
  subst l1 y1 z1
  exact own_st st (k v T' L X' hQ)
theorem own_callN (X : Stand p l e R s m args below meth c T locs cells slots) (hx : p.tables.exec = Jvm.exec) {own : String} {index : Nat} {y : MethodName} {bytes : ByteArray} {maxL : Nat} (hy1 : y.name = "<init>")
    (hown : s.vm.findClass own = some m.cls) (hlink : (Cond.methodLink own index y).before args s = true) (hinst : (Cond.instanceMethod y).before args s = true)
    (hcode : (Cond.code y bytes maxL none).before args s = true) (hy : y.cls ≠ "java/lang/invoke/MethodHandle" ∧ y.cls ≠ "java/lang/invoke/VarHandle")
    {W rc rs : Nat} {as' : Array Value} {h : Heap} {Qc : Option Value → Heap → List Loc → Prop}
    (hK : Back l R p e below s args y 3 W (fun A a => a = as' ∧ A.U.heap = h ∧ A.cells + rc ≤ R.cells ∧ A.slots + rs ≤ R.slots) (fun A _ v B => ∃ L, Qc v B.U.heap L ∧ B.locs = A.locs ++ L ∧ B.cells = A.cells + rc ∧ B.slots = A.slots + rs))
    {a : Addr} (hg : g.method = m) (hsize : g.locals.size = c.maxLocals) {argsL rest : List Value} (hlen : ∀ sig, parseMethodDescriptor y.desc = some sig → argsL.length = sig.parameters.length)
    (hstack : g.stack = argsL.reverse ++ .ref a :: rest) (hW : 2 * g.monitorRoom + (rest.map fun v => v.category).sum ≤ W) (hdg : decode c.code g.pc = .ok (.invokespecial index, 3))
    (ha : (Value.ref a :: argsL).toArray = as') (eT : T.heap = h) (hc : cells + rc ≤ R.cells) (hs : slots + rs ≤ R.slots)
    (k : ∀ v T' L, Stand p l e R s m args below meth c T' (locs ++ L) (cells + rc) (slots + rs) → Qc v T'.heap L → own_Go p e below P T' { g with pc := g.pc + 3, stack := v.toList ++ rest }) : own_Go p e below P T g := by
  obtain ⟨v, vm₁, ⟨T', L', k', n'⟩, -, X', ⟨L, hQ, l1, y1, z1⟩, st⟩ := X.specialBack hx hy1 hown hlink hinst hcode hy hK hg hsize (Steps.refl _) hlen hstack hW hdg (fun _ _ => ⟨ha, eT, hc, hs⟩)
  dsimp only [Pt.U, Pt.locs, Pt.cells, Pt.slots] at X' l1 y1 z1 st hQ
  subst l1 y1 z1
  exact own_st (fun t k => st.trans k) (k v T' L X' hQ)
theorem own_callV (X : Stand p l e R s m args below meth c T locs cells slots) (hx : p.tables.exec = Jvm.exec) {own Cn : String} {index : Nat} {y z : MethodName}
    (hown : s.vm.findClass own = some m.cls) (hlink : (Cond.methodLink own index y).before args s = true) (hdecl : (Cond.declares y).before args s = true) (hnf : NotFace s y)
    (hsel : (Cond.selects Cn y z).before args s = true) (hinst : (Cond.instanceMethod z).before args s = true)
    (hy : y.cls ≠ "java/lang/invoke/MethodHandle" ∧ y.cls ≠ "java/lang/invoke/VarHandle")
    {W rc rs : Nat} {as' : Array Value} {h : Heap} {Qc : Option Value → Heap → List Loc → Prop}
    (hK : Back l R p e below s args z 3 W (fun A a => a = as' ∧ A.U.heap = h ∧ A.cells + rc ≤ R.cells ∧ A.slots + rs ≤ R.slots) (fun A _ v B => ∃ L, Qc v B.U.heap L ∧ B.locs = A.locs ++ L ∧ B.cells = A.cells + rc ∧ B.slots = A.slots + rs))
    {a : Addr} {cB : ClassId} (hcB : s.vm.findClass Cn = some cB) (hrecv : IsOf cB T a)
    (hg : g.method = m) (hsize : g.locals.size = c.maxLocals) {argsL rest : List Value} (hlen : ∀ sig, parseMethodDescriptor y.desc = some sig → argsL.length = sig.parameters.length)
    (hstack : g.stack = argsL.reverse ++ .ref a :: rest) (hW : 2 * g.monitorRoom + (rest.map fun v => v.category).sum ≤ W) (hdg : decode c.code g.pc = .ok (.invokevirtual index, 3))
    (ha : (Value.ref a :: argsL).toArray = as') (eT : T.heap = h) (hc : cells + rc ≤ R.cells) (hs : slots + rs ≤ R.slots)
    (k : ∀ v T' L, Stand p l e R s m args below meth c T' (locs ++ L) (cells + rc) (slots + rs) → Qc v T'.heap L → own_Go p e below P T' { g with pc := g.pc + 3, stack := v.toList ++ rest }) : own_Go p e below P T g := by
  obtain ⟨v, vm₁, ⟨T', L', k', n'⟩, -, X', ⟨L, hQ, l1, y1, z1⟩, st⟩ := X.virtualBack hx hown hlink hdecl hnf hsel hinst hy hK hcB hrecv hg hsize (Steps.refl _) hlen hstack hW hdg (fun _ _ => ⟨ha, eT, hc, hs⟩)
  dsimp only [Pt.U, Pt.locs, Pt.cells, Pt.slots] at X' l1 y1 z1 st hQ
  subst l1 y1 z1
  exact own_st (fun t k => st.trans k) (k v T' L X' hQ)
theorem own_callI (X : Stand p l e R s m args below meth c T locs cells slots) (hx : p.tables.exec = Jvm.exec) {own Cn : String} {index count : Nat} {xi y : MethodName}
    (hown : s.vm.findClass own = some m.cls) (hlink : (Cond.methodLink own index xi).before args s = true) (hdecl : (Cond.declares xi).before args s = true)
    (hface : (Cond.interfaceMethod xi.cls xi.cls xi.name xi.desc).before args s = true) (hsel : (Cond.selects Cn xi y).before args s = true) (hinst : (Cond.instanceMethod y).before args s = true)
    (hpub : (Cond.publicMethod y).before args s = true) (hunh : (Cond.unhidden Cn xi.name xi.desc).before args s = true) (hcast : (Cond.castable Cn xi.cls).before args s = true)
    (hy : xi.cls ≠ "java/lang/invoke/MethodHandle" ∧ xi.cls ≠ "java/lang/invoke/VarHandle")
    {W rc rs : Nat} {as' : Array Value} {h : Heap} {Qc : Option Value → Heap → List Loc → Prop}
    (hK : Back l R p e below s args y 5 W (fun A a => a = as' ∧ A.U.heap = h ∧ A.cells + rc ≤ R.cells ∧ A.slots + rs ≤ R.slots) (fun A _ v B => ∃ L, Qc v B.U.heap L ∧ B.locs = A.locs ++ L ∧ B.cells = A.cells + rc ∧ B.slots = A.slots + rs))
    {a : Addr} {cB : ClassId} {kB : Class} (hcB : s.vm.findClass Cn = some cB) (hkB : s.vm.classes[cB]? = some kB) (hrecv : IsOf cB T a)
    (hg : g.method = m) (hsize : g.locals.size = c.maxLocals) {argsL rest : List Value} (hlen : ∀ sig, parseMethodDescriptor xi.desc = some sig → argsL.length = sig.parameters.length)
    (hstack : g.stack = argsL.reverse ++ .ref a :: rest) (hW : 2 * g.monitorRoom + (rest.map fun v => v.category).sum ≤ W) (hdg : decode c.code g.pc = .ok (.invokeinterface index count, 5))
    (ha : (Value.ref a :: argsL).toArray = as') (eT : T.heap = h) (hc : cells + rc ≤ R.cells) (hs : slots + rs ≤ R.slots)
    (k : ∀ v T' L, Stand p l e R s m args below meth c T' (locs ++ L) (cells + rc) (slots + rs) → Qc v T'.heap L → own_Go p e below P T' { g with pc := g.pc + 5, stack := v.toList ++ rest }) : own_Go p e below P T g := by
  obtain ⟨v, vm₁, ⟨T', L', k', n'⟩, -, X', ⟨L, hQ, l1, y1, z1⟩, st⟩ := X.interfaceBack hx hown hlink hdecl hface hsel hinst hpub hunh hcast hy hK hcB hkB hrecv hg hsize (Steps.refl _) hlen hstack hW hdg (fun _ _ => ⟨ha, eT, hc, hs⟩)
  dsimp only [Pt.U, Pt.locs, Pt.cells, Pt.slots] at X' l1 y1 z1 st hQ
  subst l1 y1 z1
  exact own_st (fun t k => st.trans k) (k v T' L X' hQ)
theorem own_callP (X : Stand p l e R s m args below meth c T locs cells slots) (hx : p.tables.exec = Jvm.exec) {own : String} {index : Nat} {y : MethodName} {bytes : ByteArray} {maxL : Nat} {ret : Option FieldType}
    (hown : s.vm.findClass own = some m.cls) (hlink : (Cond.methodLink own index y).before args s = true) (hinst : (Cond.instanceMethod y).before args s = true) (hsel : (Cond.selects y.cls y y).before args s = true)
    (hpriv : s.PrivateAt y) (hcode : (Cond.code y bytes maxL ret).before args s = true) (hy : y.cls ≠ "java/lang/invoke/MethodHandle" ∧ y.cls ≠ "java/lang/invoke/VarHandle")
    {W rc rs : Nat} {as' : Array Value} {h : Heap} {Qc : Option Value → Heap → List Loc → Prop}
    (hK : Back l R p e below s args y 3 W (fun A a => a = as' ∧ A.U.heap = h ∧ A.cells + rc ≤ R.cells ∧ A.slots + rs ≤ R.slots) (fun A _ v B => ∃ L, Qc v B.U.heap L ∧ B.locs = A.locs ++ L ∧ B.cells = A.cells + rc ∧ B.slots = A.slots + rs))
    {a : Addr} {cell : Cell} (hcell : T.heap[a]? = some cell) (hobj : ∀ q, cell.vm ≠ .statics q)
    (hg : g.method = m) (hsize : g.locals.size = c.maxLocals) {argsL rest : List Value} (hlen : ∀ sig, parseMethodDescriptor y.desc = some sig → argsL.length = sig.parameters.length)
    (hstack : g.stack = argsL.reverse ++ .ref a :: rest) (hW : 2 * g.monitorRoom + (rest.map fun v => v.category).sum ≤ W) (hdg : decode c.code g.pc = .ok (.invokevirtual index, 3))
    (ha : (Value.ref a :: argsL).toArray = as') (eT : T.heap = h) (hc : cells + rc ≤ R.cells) (hs : slots + rs ≤ R.slots)
    (k : ∀ v T' L, Stand p l e R s m args below meth c T' (locs ++ L) (cells + rc) (slots + rs) → Qc v T'.heap L → own_Go p e below P T' { g with pc := g.pc + 3, stack := v.toList ++ rest }) : own_Go p e below P T g := by
  obtain ⟨v, vm₁, ⟨T', L', k', n'⟩, -, X', ⟨L, hQ, l1, y1, z1⟩, st⟩ := X.privateBack hx hown hlink hinst hsel hpriv hcode hy hK hg hsize (Steps.refl _) hcell hobj hlen hstack hW hdg (fun _ _ => ⟨ha, eT, hc, hs⟩)
  dsimp only [Pt.U, Pt.locs, Pt.cells, Pt.slots] at X' l1 y1 z1 st hQ
  subst l1 y1 z1
  exact own_st (fun t k => st.trans k) (k v T' L X' hQ)
end Own
section OwnWords
variable {args : Array Value} {s : State} {t u : Term} {x y : Addr} {C n d : String} {z : Int32}
theorem own_feqR (h : (Cond.eq (Term.field t C n d) u).value args s none s [] = some true) (ht : t.eval args s none [] s = some (.ref x)) (hu : u.eval args s none [] s = some (.ref y)) : s.fieldOf? x C n d = some (.ref y) := by
  obtain ⟨x', y', h1, h2, k1, k2⟩ := cmp_v (Or.inl h)
  cases hu.symm.trans h2
  have hr : x'.isRef = true := k2.2
  have := gotT (eq_R h1 h2 hr rfl) h
  rw [← fld_at ht (idx := []) (first := s) (o := none) (args := args), h1, this]
theorem own_feqI (h : (Cond.eq (Term.field t C n d) (.int z)).value args s none s [] = some true) (ht : t.eval args s none [] s = some (.ref x)) : s.fieldOf? x C n d = some (.int z) := by
  obtain ⟨x', y', h1, h2, k1, k2⟩ := cmp_v (Or.inl h)
  cases (Term.int_eval z).symm.trans h2
  obtain ⟨z', rfl⟩ := k2
  have : z' = z := by simpa [Cond.value, h1, Term.int_eval] using h
  rw [← fld_at ht (idx := []) (first := s) (o := none) (args := args), h1, this]
end OwnWords

def QP (a : Addr) (h0 : Heap) (n0 : Nat) (v : Option Value) (h : Heap) (L : List Loc) : Prop := v = some (.ref a) ∧ Fr n0 L ∧ h = h0
def own_ex (s : Int32) (wD wR wX : Addr) : Addr := if s = (200 : Int32) then wD else if s = (201 : Int32) then wD else if s = (202 : Int32) then wD else if s = (204 : Int32) then wD else if s = (102 : Int32) then wD else if s = (500 : Int32) then wR else if s = (502 : Int32) then wR else if s = (503 : Int32) then wR else if s = (504 : Int32) then wR else wX
theorem d1_0 : decode method_3_code 0 = .ok (.iload_n 0, 1) := by decide +kernel
theorem d1_1 : decode method_3_code 1 = .ok (.sipush 200, 3) := by decide +kernel
theorem d1_4 : decode method_3_code 4 = .ok (.if_icmp .eq 30, 3) := by decide +kernel
theorem d1_34 : decode method_3_code 34 = .ok (.getstatic 19, 3) := by decide +kernel
theorem d1_37 : decode method_3_code 37 = .ok (.areturn, 1) := by decide +kernel
theorem d1_7 : decode method_3_code 7 = .ok (.iload_n 0, 1) := by decide +kernel
theorem d1_8 : decode method_3_code 8 = .ok (.sipush 201, 3) := by decide +kernel
theorem d1_11 : decode method_3_code 11 = .ok (.if_icmp .eq 23, 3) := by decide +kernel
theorem d1_14 : decode method_3_code 14 = .ok (.iload_n 0, 1) := by decide +kernel
theorem d1_15 : decode method_3_code 15 = .ok (.sipush 202, 3) := by decide +kernel
theorem d1_18 : decode method_3_code 18 = .ok (.if_icmp .eq 16, 3) := by decide +kernel
theorem d1_21 : decode method_3_code 21 = .ok (.iload_n 0, 1) := by decide +kernel
theorem d1_22 : decode method_3_code 22 = .ok (.sipush 204, 3) := by decide +kernel
theorem d1_25 : decode method_3_code 25 = .ok (.if_icmp .eq 9, 3) := by decide +kernel
theorem d1_28 : decode method_3_code 28 = .ok (.iload_n 0, 1) := by decide +kernel
theorem d1_29 : decode method_3_code 29 = .ok (.bipush 102, 2) := by decide +kernel
theorem d1_31 : decode method_3_code 31 = .ok (.if_icmp .ne 7, 3) := by decide +kernel
theorem d1_38 : decode method_3_code 38 = .ok (.iload_n 0, 1) := by decide +kernel
theorem d1_39 : decode method_3_code 39 = .ok (.sipush 500, 3) := by decide +kernel
theorem d1_42 : decode method_3_code 42 = .ok (.if_icmp .eq 24, 3) := by decide +kernel
theorem d1_66 : decode method_3_code 66 = .ok (.getstatic 23, 3) := by decide +kernel
theorem d1_69 : decode method_3_code 69 = .ok (.areturn, 1) := by decide +kernel
theorem d1_45 : decode method_3_code 45 = .ok (.iload_n 0, 1) := by decide +kernel
theorem d1_46 : decode method_3_code 46 = .ok (.sipush 502, 3) := by decide +kernel
theorem d1_49 : decode method_3_code 49 = .ok (.if_icmp .eq 17, 3) := by decide +kernel
theorem d1_52 : decode method_3_code 52 = .ok (.iload_n 0, 1) := by decide +kernel
theorem d1_53 : decode method_3_code 53 = .ok (.sipush 503, 3) := by decide +kernel
theorem d1_56 : decode method_3_code 56 = .ok (.if_icmp .eq 10, 3) := by decide +kernel
theorem d1_59 : decode method_3_code 59 = .ok (.iload_n 0, 1) := by decide +kernel
theorem d1_60 : decode method_3_code 60 = .ok (.sipush 504, 3) := by decide +kernel
theorem d1_63 : decode method_3_code 63 = .ok (.if_icmp .ne 7, 3) := by decide +kernel
theorem d1_70 : decode method_3_code 70 = .ok (.getstatic 26, 3) := by decide +kernel
theorem d1_73 : decode method_3_code 73 = .ok (.areturn, 1) := by decide +kernel
theorem pn_0 : plainName "com/example/gentle_nudge/gentlenudge/protocol/OutcomeOfStatusPinLaw" = true := by first | (simp [plainName, overriddenIn]; done) | decide +kernel
theorem ef_rmE (m : MethodId) (x0 : Int32) : entryFrame m #[(.int x0)] 1 = mkF m 0 #[.val (.int x0)] [] := by first | (simp [entryFrame, mkF, argsToLocals, Value.category]; done) | rfl
set_option maxRecDepth 65536 in
set_option maxHeartbeats 40000000 in
theorem rmE (l : Launch) (Z : State) (a0 : Array Value) (hw : ∀ d ∈ tables_1, d.before a0 Z = true) (ws : List Jvm.Cond) (i : Int32) (wD wR wX : Addr) (h0 : Heap) (n0 : Nat) (Z0 : n0 ≤ h0.size) (SD : Sta Z h0 "com/example/gentle_nudge/gentlenudge/protocol/Outcome" "DELIVERED" "Lcom/example/gentle_nudge/gentlenudge/protocol/Outcome;" (.ref wD)) (SR : Sta Z h0 "com/example/gentle_nudge/gentlenudge/protocol/Outcome" "RETRY" "Lcom/example/gentle_nudge/gentlenudge/protocol/Outcome;" (.ref wR)) (SX : Sta Z h0 "com/example/gentle_nudge/gentlenudge/protocol/Outcome" "DROPPED" "Lcom/example/gentle_nudge/gentlenudge/protocol/Outcome;" (.ref wX)) :
    MetFree l (⟨"com/example/gentle_nudge/gentlenudge/protocol/OutcomeOfStatusPinLaw", "expectedOf", "(I)Lcom/example/gentle_nudge/gentlenudge/protocol/Outcome;"⟩ : MethodName) (head1 (Jvm.Cond.code (⟨"com/example/gentle_nudge/gentlenudge/protocol/OutcomeOfStatusPinLaw", "expectedOf", "(I)Lcom/example/gentle_nudge/gentlenudge/protocol/Outcome;"⟩ : MethodName) method_3_code 1 (some (.object "com/example/gentle_nudge/gentlenudge/protocol/Outcome")) :: ws) ({ frames := 0, cells := 0, slots := 0, locals := 0 } : Room)) (fun a_ U_ => a_ = #[(.int i)] ∧ Z.Warmed39 U_.vm ∧ U_.heap = h0) (fun _ _ _ _ _ => True) (fun _ U_ o_ U'_ => ∃ v_ L_, o_ = .returned v_ ∧ QP (own_ex i wD wR wX) h0 n0 v_ U'_.heap L_ ∧ FrameEnd U_ o_ U'_ L_ ({ frames := 0, cells := 0, slots := 0, locals := 0 } : Room).cells ({ frames := 0, cells := 0, slots := 0, locals := 0 } : Room).slots) := by
  refine MetFree.of_bodySF (plainFor_of_name pn_0) hisR ?_
  intro p e s m args below meth c s₁ Bd hml0 hP hK
  obtain ⟨rfl, hZ, hh⟩ := hP
  have hx := Bd.exec
  have hby := Bd.bytes
  have hml : c.maxLocals = 1 := hml0
  have hown : s.vm.findClass "com/example/gentle_nudge/gentlenudge/protocol/OutcomeOfStatusPinLaw" = some m.cls := findClass_of_methodNamed Bd.named
  have hnm := (name_of_methodNamed Bd.named Bd.method).1
  have hlk := BodyLoose.notSynchronized Bd
  have X0 : Stand p l e ({ frames := 0, cells := 0, slots := 0, locals := 0 } : Room) s m #[(.int i)] below meth c s₁ [] 0 0 := Stand.of_body Bd
  have e0 : s₁.heap = h0 := by rw [← hh, Bd.state]; rfl
  have N0 := Fr.nil n0
  refine own_entry (P := own_End s (QP (own_ex i wD wR wX) h0 n0) ({ frames := 0, cells := 0, slots := 0, locals := 0 } : Room).cells ({ frames := 0, cells := 0, slots := 0, locals := 0 } : Room).slots) (ef_rmE m i) ?_
  show own_Go p e below _ s₁ (mkF m 0 #[.val (.int i)] [])
  refine own_st (fun t_ k_ => XS.iloadN X0.here hx rfl (hb hby d1_0) rfl k_) ?_
  show own_Go p e below _ s₁ (mkF m 1 #[.val (.int i)] [(.int i)])
  refine own_st (fun t_ k_ => XS.sipush X0.here hx rfl (hb hby d1_1) k_) ?_
  show own_Go p e below _ s₁ (mkF m 4 #[.val (.int i)] [(.int (200 : Int32)), (.int i)])
  by_cases hi4 : i = (200 : Int32)
  · refine own_st (fun t_ k_ => XS.icmpYes X0.here hx rfl (pc0 := 4) (pc' := 34) rfl (hb hby d1_4) rfl (teq hi4).1 (by decide) (by decide) k_) ?_
    show own_Go p e below _ s₁ (mkF m 34 #[.val (.int i)] [])
    obtain ⟨T1, X1, e1, st1⟩ := getS2 X0 hx hZ hown (host := "") (Or.inl (hw _ (List.mem_of_getElem? (i := 13) rfl))) Via.refl e0 SD (g := (mkF m 34 #[.val (.int i)] [])) rfl (hb hby d1_34)
    refine own_st st1 ?_
    show own_Go p e below _ T1 (mkF m 37 #[.val (.int i)] [(.ref wD)])
    refine own_retA X1 hx hlk Bd.returns rfl rfl (hb hby d1_37) ?_ (by decide) (by decide)
    show QP (own_ex i wD wR wX) h0 n0 _ T1.heap _
    rw [e1]
    exact ⟨by simp [own_ex, hi4], N0, rfl⟩
  · refine own_st (fun t_ k_ => XS.icmpNo X0.here hx rfl (hb hby d1_4) rfl (feq hi4).1 k_) ?_
    show own_Go p e below _ s₁ (mkF m 7 #[.val (.int i)] [])
    refine own_st (fun t_ k_ => XS.iloadN X0.here hx rfl (hb hby d1_7) rfl k_) ?_
    show own_Go p e below _ s₁ (mkF m 8 #[.val (.int i)] [(.int i)])
    refine own_st (fun t_ k_ => XS.sipush X0.here hx rfl (hb hby d1_8) k_) ?_
    show own_Go p e below _ s₁ (mkF m 11 #[.val (.int i)] [(.int (201 : Int32)), (.int i)])
    by_cases hi11 : i = (201 : Int32)
    · refine own_st (fun t_ k_ => XS.icmpYes X0.here hx rfl (pc0 := 11) (pc' := 34) rfl (hb hby d1_11) rfl (teq hi11).1 (by decide) (by decide) k_) ?_
      show own_Go p e below _ s₁ (mkF m 34 #[.val (.int i)] [])
      obtain ⟨T2, X2, e2, st2⟩ := getS2 X0 hx hZ hown (host := "") (Or.inl (hw _ (List.mem_of_getElem? (i := 13) rfl))) Via.refl e0 SD (g := (mkF m 34 #[.val (.int i)] [])) rfl (hb hby d1_34)
      refine own_st st2 ?_
      show own_Go p e below _ T2 (mkF m 37 #[.val (.int i)] [(.ref wD)])
      refine own_retA X2 hx hlk Bd.returns rfl rfl (hb hby d1_37) ?_ (by decide) (by decide)
      show QP (own_ex i wD wR wX) h0 n0 _ T2.heap _
      rw [e2]
      exact ⟨by simp [own_ex, hi4, hi11], N0, rfl⟩
    · refine own_st (fun t_ k_ => XS.icmpNo X0.here hx rfl (hb hby d1_11) rfl (feq hi11).1 k_) ?_
      show own_Go p e below _ s₁ (mkF m 14 #[.val (.int i)] [])
      refine own_st (fun t_ k_ => XS.iloadN X0.here hx rfl (hb hby d1_14) rfl k_) ?_
      show own_Go p e below _ s₁ (mkF m 15 #[.val (.int i)] [(.int i)])
      refine own_st (fun t_ k_ => XS.sipush X0.here hx rfl (hb hby d1_15) k_) ?_
      show own_Go p e below _ s₁ (mkF m 18 #[.val (.int i)] [(.int (202 : Int32)), (.int i)])
      by_cases hi18 : i = (202 : Int32)
      · refine own_st (fun t_ k_ => XS.icmpYes X0.here hx rfl (pc0 := 18) (pc' := 34) rfl (hb hby d1_18) rfl (teq hi18).1 (by decide) (by decide) k_) ?_
        show own_Go p e below _ s₁ (mkF m 34 #[.val (.int i)] [])
        obtain ⟨T3, X3, e3, st3⟩ := getS2 X0 hx hZ hown (host := "") (Or.inl (hw _ (List.mem_of_getElem? (i := 13) rfl))) Via.refl e0 SD (g := (mkF m 34 #[.val (.int i)] [])) rfl (hb hby d1_34)
        refine own_st st3 ?_
        show own_Go p e below _ T3 (mkF m 37 #[.val (.int i)] [(.ref wD)])
        refine own_retA X3 hx hlk Bd.returns rfl rfl (hb hby d1_37) ?_ (by decide) (by decide)
        show QP (own_ex i wD wR wX) h0 n0 _ T3.heap _
        rw [e3]
        exact ⟨by simp [own_ex, hi4, hi11, hi18], N0, rfl⟩
      · refine own_st (fun t_ k_ => XS.icmpNo X0.here hx rfl (hb hby d1_18) rfl (feq hi18).1 k_) ?_
        show own_Go p e below _ s₁ (mkF m 21 #[.val (.int i)] [])
        refine own_st (fun t_ k_ => XS.iloadN X0.here hx rfl (hb hby d1_21) rfl k_) ?_
        show own_Go p e below _ s₁ (mkF m 22 #[.val (.int i)] [(.int i)])
        refine own_st (fun t_ k_ => XS.sipush X0.here hx rfl (hb hby d1_22) k_) ?_
        show own_Go p e below _ s₁ (mkF m 25 #[.val (.int i)] [(.int (204 : Int32)), (.int i)])
        by_cases hi25 : i = (204 : Int32)
        · refine own_st (fun t_ k_ => XS.icmpYes X0.here hx rfl (pc0 := 25) (pc' := 34) rfl (hb hby d1_25) rfl (teq hi25).1 (by decide) (by decide) k_) ?_
          show own_Go p e below _ s₁ (mkF m 34 #[.val (.int i)] [])
          obtain ⟨T4, X4, e4, st4⟩ := getS2 X0 hx hZ hown (host := "") (Or.inl (hw _ (List.mem_of_getElem? (i := 13) rfl))) Via.refl e0 SD (g := (mkF m 34 #[.val (.int i)] [])) rfl (hb hby d1_34)
          refine own_st st4 ?_
          show own_Go p e below _ T4 (mkF m 37 #[.val (.int i)] [(.ref wD)])
          refine own_retA X4 hx hlk Bd.returns rfl rfl (hb hby d1_37) ?_ (by decide) (by decide)
          show QP (own_ex i wD wR wX) h0 n0 _ T4.heap _
          rw [e4]
          exact ⟨by simp [own_ex, hi4, hi11, hi18, hi25], N0, rfl⟩
        · refine own_st (fun t_ k_ => XS.icmpNo X0.here hx rfl (hb hby d1_25) rfl (feq hi25).1 k_) ?_
          show own_Go p e below _ s₁ (mkF m 28 #[.val (.int i)] [])
          refine own_st (fun t_ k_ => XS.iloadN X0.here hx rfl (hb hby d1_28) rfl k_) ?_
          show own_Go p e below _ s₁ (mkF m 29 #[.val (.int i)] [(.int i)])
          refine own_st (fun t_ k_ => XS.bipush X0.here hx rfl (hb hby d1_29) k_) ?_
          show own_Go p e below _ s₁ (mkF m 31 #[.val (.int i)] [(.int (102 : Int32)), (.int i)])
          by_cases hi31 : i = (102 : Int32)
          · refine own_st (fun t_ k_ => XS.icmpNo X0.here hx rfl (hb hby d1_31) rfl (teq hi31).2 k_) ?_
            show own_Go p e below _ s₁ (mkF m 34 #[.val (.int i)] [])
            obtain ⟨T10, X10, e10, st10⟩ := getS2 X0 hx hZ hown (host := "") (Or.inl (hw _ (List.mem_of_getElem? (i := 13) rfl))) Via.refl e0 SD (g := (mkF m 34 #[.val (.int i)] [])) rfl (hb hby d1_34)
            refine own_st st10 ?_
            show own_Go p e below _ T10 (mkF m 37 #[.val (.int i)] [(.ref wD)])
            refine own_retA X10 hx hlk Bd.returns rfl rfl (hb hby d1_37) ?_ (by decide) (by decide)
            show QP (own_ex i wD wR wX) h0 n0 _ T10.heap _
            rw [e10]
            exact ⟨by simp [own_ex, hi4, hi11, hi18, hi25, hi31], N0, rfl⟩
          · refine own_st (fun t_ k_ => XS.icmpYes X0.here hx rfl (pc0 := 31) (pc' := 38) rfl (hb hby d1_31) rfl (feq hi31).2 (by decide) (by decide) k_) ?_
            show own_Go p e below _ s₁ (mkF m 38 #[.val (.int i)] [])
            refine own_st (fun t_ k_ => XS.iloadN X0.here hx rfl (hb hby d1_38) rfl k_) ?_
            show own_Go p e below _ s₁ (mkF m 39 #[.val (.int i)] [(.int i)])
            refine own_st (fun t_ k_ => XS.sipush X0.here hx rfl (hb hby d1_39) k_) ?_
            show own_Go p e below _ s₁ (mkF m 42 #[.val (.int i)] [(.int (500 : Int32)), (.int i)])
            by_cases hi42 : i = (500 : Int32)
            · refine own_st (fun t_ k_ => XS.icmpYes X0.here hx rfl (pc0 := 42) (pc' := 66) rfl (hb hby d1_42) rfl (teq hi42).1 (by decide) (by decide) k_) ?_
              show own_Go p e below _ s₁ (mkF m 66 #[.val (.int i)] [])
              obtain ⟨T5, X5, e5, st5⟩ := getS2 X0 hx hZ hown (host := "") (Or.inl (hw _ (List.mem_of_getElem? (i := 16) rfl))) Via.refl e0 SR (g := (mkF m 66 #[.val (.int i)] [])) rfl (hb hby d1_66)
              refine own_st st5 ?_
              show own_Go p e below _ T5 (mkF m 69 #[.val (.int i)] [(.ref wR)])
              refine own_retA X5 hx hlk Bd.returns rfl rfl (hb hby d1_69) ?_ (by decide) (by decide)
              show QP (own_ex i wD wR wX) h0 n0 _ T5.heap _
              rw [e5]
              exact ⟨by simp [own_ex, hi4, hi11, hi18, hi25, hi31, hi42], N0, rfl⟩
            · refine own_st (fun t_ k_ => XS.icmpNo X0.here hx rfl (hb hby d1_42) rfl (feq hi42).1 k_) ?_
              show own_Go p e below _ s₁ (mkF m 45 #[.val (.int i)] [])
              refine own_st (fun t_ k_ => XS.iloadN X0.here hx rfl (hb hby d1_45) rfl k_) ?_
              show own_Go p e below _ s₁ (mkF m 46 #[.val (.int i)] [(.int i)])
              refine own_st (fun t_ k_ => XS.sipush X0.here hx rfl (hb hby d1_46) k_) ?_
              show own_Go p e below _ s₁ (mkF m 49 #[.val (.int i)] [(.int (502 : Int32)), (.int i)])
              by_cases hi49 : i = (502 : Int32)
              · refine own_st (fun t_ k_ => XS.icmpYes X0.here hx rfl (pc0 := 49) (pc' := 66) rfl (hb hby d1_49) rfl (teq hi49).1 (by decide) (by decide) k_) ?_
                show own_Go p e below _ s₁ (mkF m 66 #[.val (.int i)] [])
                obtain ⟨T6, X6, e6, st6⟩ := getS2 X0 hx hZ hown (host := "") (Or.inl (hw _ (List.mem_of_getElem? (i := 16) rfl))) Via.refl e0 SR (g := (mkF m 66 #[.val (.int i)] [])) rfl (hb hby d1_66)
                refine own_st st6 ?_
                show own_Go p e below _ T6 (mkF m 69 #[.val (.int i)] [(.ref wR)])
                refine own_retA X6 hx hlk Bd.returns rfl rfl (hb hby d1_69) ?_ (by decide) (by decide)
                show QP (own_ex i wD wR wX) h0 n0 _ T6.heap _
                rw [e6]
                exact ⟨by simp [own_ex, hi4, hi11, hi18, hi25, hi31, hi42, hi49], N0, rfl⟩
              · refine own_st (fun t_ k_ => XS.icmpNo X0.here hx rfl (hb hby d1_49) rfl (feq hi49).1 k_) ?_
                show own_Go p e below _ s₁ (mkF m 52 #[.val (.int i)] [])
                refine own_st (fun t_ k_ => XS.iloadN X0.here hx rfl (hb hby d1_52) rfl k_) ?_
                show own_Go p e below _ s₁ (mkF m 53 #[.val (.int i)] [(.int i)])
                refine own_st (fun t_ k_ => XS.sipush X0.here hx rfl (hb hby d1_53) k_) ?_
                show own_Go p e below _ s₁ (mkF m 56 #[.val (.int i)] [(.int (503 : Int32)), (.int i)])
                by_cases hi56 : i = (503 : Int32)
                · refine own_st (fun t_ k_ => XS.icmpYes X0.here hx rfl (pc0 := 56) (pc' := 66) rfl (hb hby d1_56) rfl (teq hi56).1 (by decide) (by decide) k_) ?_
                  show own_Go p e below _ s₁ (mkF m 66 #[.val (.int i)] [])
                  obtain ⟨T7, X7, e7, st7⟩ := getS2 X0 hx hZ hown (host := "") (Or.inl (hw _ (List.mem_of_getElem? (i := 16) rfl))) Via.refl e0 SR (g := (mkF m 66 #[.val (.int i)] [])) rfl (hb hby d1_66)
                  refine own_st st7 ?_
                  show own_Go p e below _ T7 (mkF m 69 #[.val (.int i)] [(.ref wR)])
                  refine own_retA X7 hx hlk Bd.returns rfl rfl (hb hby d1_69) ?_ (by decide) (by decide)
                  show QP (own_ex i wD wR wX) h0 n0 _ T7.heap _
                  rw [e7]
                  exact ⟨by simp [own_ex, hi4, hi11, hi18, hi25, hi31, hi42, hi49, hi56], N0, rfl⟩
                · refine own_st (fun t_ k_ => XS.icmpNo X0.here hx rfl (hb hby d1_56) rfl (feq hi56).1 k_) ?_
                  show own_Go p e below _ s₁ (mkF m 59 #[.val (.int i)] [])
                  refine own_st (fun t_ k_ => XS.iloadN X0.here hx rfl (hb hby d1_59) rfl k_) ?_
                  show own_Go p e below _ s₁ (mkF m 60 #[.val (.int i)] [(.int i)])
                  refine own_st (fun t_ k_ => XS.sipush X0.here hx rfl (hb hby d1_60) k_) ?_
                  show own_Go p e below _ s₁ (mkF m 63 #[.val (.int i)] [(.int (504 : Int32)), (.int i)])
                  by_cases hi63 : i = (504 : Int32)
                  · refine own_st (fun t_ k_ => XS.icmpNo X0.here hx rfl (hb hby d1_63) rfl (teq hi63).2 k_) ?_
                    show own_Go p e below _ s₁ (mkF m 66 #[.val (.int i)] [])
                    obtain ⟨T9, X9, e9, st9⟩ := getS2 X0 hx hZ hown (host := "") (Or.inl (hw _ (List.mem_of_getElem? (i := 16) rfl))) Via.refl e0 SR (g := (mkF m 66 #[.val (.int i)] [])) rfl (hb hby d1_66)
                    refine own_st st9 ?_
                    show own_Go p e below _ T9 (mkF m 69 #[.val (.int i)] [(.ref wR)])
                    refine own_retA X9 hx hlk Bd.returns rfl rfl (hb hby d1_69) ?_ (by decide) (by decide)
                    show QP (own_ex i wD wR wX) h0 n0 _ T9.heap _
                    rw [e9]
                    exact ⟨by simp [own_ex, hi4, hi11, hi18, hi25, hi31, hi42, hi49, hi56, hi63], N0, rfl⟩
                  · refine own_st (fun t_ k_ => XS.icmpYes X0.here hx rfl (pc0 := 63) (pc' := 70) rfl (hb hby d1_63) rfl (feq hi63).2 (by decide) (by decide) k_) ?_
                    show own_Go p e below _ s₁ (mkF m 70 #[.val (.int i)] [])
                    obtain ⟨T8, X8, e8, st8⟩ := getS2 X0 hx hZ hown (host := "") (Or.inl (hw _ (List.mem_of_getElem? (i := 5) rfl))) Via.refl e0 SX (g := (mkF m 70 #[.val (.int i)] [])) rfl (hb hby d1_70)
                    refine own_st st8 ?_
                    show own_Go p e below _ T8 (mkF m 73 #[.val (.int i)] [(.ref wX)])
                    refine own_retA X8 hx hlk Bd.returns rfl rfl (hb hby d1_73) ?_ (by decide) (by decide)
                    show QP (own_ex i wD wR wX) h0 n0 _ T8.heap _
                    rw [e8]
                    exact ⟨by simp [own_ex, hi4, hi11, hi18, hi25, hi31, hi42, hi49, hi56, hi63], N0, rfl⟩
theorem d2_0 : decode prog_4_method_4_code 0 = .ok (.iload_n 0, 1) := by decide +kernel
theorem own_miss {i : Int32} (h102 : ¬ i = (102 : Int32)) (h200 : ¬ i = (200 : Int32)) (h201 : ¬ i = (201 : Int32)) (h202 : ¬ i = (202 : Int32)) (h204 : ¬ i = (204 : Int32)) (h500 : ¬ i = (500 : Int32)) (h502 : ¬ i = (502 : Int32)) (h503 : ¬ i = (503 : Int32)) (h504 : ¬ i = (504 : Int32)) : (#[(102, 83), (200, 83), (201, 83), (202, 83), (204, 83), (500, 89), (502, 89), (503, 89), (504, 89)] : Array (Int × Int)).find? (·.1 == i.toInt) = none := by
  refine find_miss ?_
  intro p hp
  simp only [List.mem_cons, List.not_mem_nil, or_false] at hp
  rcases hp with rfl | rfl | rfl | rfl | rfl | rfl | rfl | rfl | rfl
  · exact fun h => h102 (Int32.toInt_inj.mp h.symm)
  · exact fun h => h200 (Int32.toInt_inj.mp h.symm)
  · exact fun h => h201 (Int32.toInt_inj.mp h.symm)
  · exact fun h => h202 (Int32.toInt_inj.mp h.symm)
  · exact fun h => h204 (Int32.toInt_inj.mp h.symm)
  · exact fun h => h500 (Int32.toInt_inj.mp h.symm)
  · exact fun h => h502 (Int32.toInt_inj.mp h.symm)
  · exact fun h => h503 (Int32.toInt_inj.mp h.symm)
  · exact fun h => h504 (Int32.toInt_inj.mp h.symm)
theorem d2_1 : decode prog_4_method_4_code 1 = .ok (.lookupswitch 95 #[(102, 83), (200, 83), (201, 83), (202, 83), (204, 83), (500, 89), (502, 89), (503, 89), (504, 89)], 83) := by decide +kernel
theorem d2_84 : decode prog_4_method_4_code 84 = .ok (.getstatic 3, 3) := by decide +kernel
theorem d2_87 : decode prog_4_method_4_code 87 = .ok (.goto 12, 3) := by decide +kernel
theorem d2_99 : decode prog_4_method_4_code 99 = .ok (.areturn, 1) := by decide +kernel
theorem d2_90 : decode prog_4_method_4_code 90 = .ok (.getstatic 7, 3) := by decide +kernel
theorem d2_93 : decode prog_4_method_4_code 93 = .ok (.goto 6, 3) := by decide +kernel
theorem d2_96 : decode prog_4_method_4_code 96 = .ok (.getstatic 10, 3) := by decide +kernel
theorem pn_1 : plainName "com/example/gentle_nudge/gentlenudge/protocol/Outcome" = true := by first | (simp [plainName, overriddenIn]; done) | decide +kernel
theorem ef_rmO (m : MethodId) (x0 : Int32) : entryFrame m #[(.int x0)] 1 = mkF m 0 #[.val (.int x0)] [] := by first | (simp [entryFrame, mkF, argsToLocals, Value.category]; done) | rfl
set_option maxRecDepth 65536 in
set_option maxHeartbeats 40000000 in
theorem rmO (l : Launch) (Z : State) (a0 : Array Value) (hw : ∀ d ∈ tables_1, d.before a0 Z = true) (ws : List Jvm.Cond) (i : Int32) (wD wR wX : Addr) (h0 : Heap) (n0 : Nat) (Z0 : n0 ≤ h0.size) (SD : Sta Z h0 "com/example/gentle_nudge/gentlenudge/protocol/Outcome" "DELIVERED" "Lcom/example/gentle_nudge/gentlenudge/protocol/Outcome;" (.ref wD)) (SR : Sta Z h0 "com/example/gentle_nudge/gentlenudge/protocol/Outcome" "RETRY" "Lcom/example/gentle_nudge/gentlenudge/protocol/Outcome;" (.ref wR)) (SX : Sta Z h0 "com/example/gentle_nudge/gentlenudge/protocol/Outcome" "DROPPED" "Lcom/example/gentle_nudge/gentlenudge/protocol/Outcome;" (.ref wX)) :
    MetFree l (⟨"com/example/gentle_nudge/gentlenudge/protocol/Outcome", "ofStatus", "(I)Lcom/example/gentle_nudge/gentlenudge/protocol/Outcome;"⟩ : MethodName) (head1 (Jvm.Cond.code (⟨"com/example/gentle_nudge/gentlenudge/protocol/Outcome", "ofStatus", "(I)Lcom/example/gentle_nudge/gentlenudge/protocol/Outcome;"⟩ : MethodName) prog_4_method_4_code 1 (some (.object "com/example/gentle_nudge/gentlenudge/protocol/Outcome")) :: ws) ({ frames := 0, cells := 0, slots := 0, locals := 0 } : Room)) (fun a_ U_ => a_ = #[(.int i)] ∧ Z.Warmed39 U_.vm ∧ U_.heap = h0) (fun _ _ _ _ _ => True) (fun _ U_ o_ U'_ => ∃ v_ L_, o_ = .returned v_ ∧ QP (own_ex i wD wR wX) h0 n0 v_ U'_.heap L_ ∧ FrameEnd U_ o_ U'_ L_ ({ frames := 0, cells := 0, slots := 0, locals := 0 } : Room).cells ({ frames := 0, cells := 0, slots := 0, locals := 0 } : Room).slots) := by
  refine MetFree.of_bodySF (plainFor_of_name pn_1) hisR ?_
  intro p e s m args below meth c s₁ Bd hml0 hP hK
  obtain ⟨rfl, hZ, hh⟩ := hP
  have hx := Bd.exec
  have hby := Bd.bytes
  have hml : c.maxLocals = 1 := hml0
  have hown : s.vm.findClass "com/example/gentle_nudge/gentlenudge/protocol/Outcome" = some m.cls := findClass_of_methodNamed Bd.named
  have hnm := (name_of_methodNamed Bd.named Bd.method).1
  have hlk := BodyLoose.notSynchronized Bd
  have X0 : Stand p l e ({ frames := 0, cells := 0, slots := 0, locals := 0 } : Room) s m #[(.int i)] below meth c s₁ [] 0 0 := Stand.of_body Bd
  have e0 : s₁.heap = h0 := by rw [← hh, Bd.state]; rfl
  have N0 := Fr.nil n0
  refine own_entry (P := own_End s (QP (own_ex i wD wR wX) h0 n0) ({ frames := 0, cells := 0, slots := 0, locals := 0 } : Room).cells ({ frames := 0, cells := 0, slots := 0, locals := 0 } : Room).slots) (ef_rmO m i) ?_
  show own_Go p e below _ s₁ (mkF m 0 #[.val (.int i)] [])
  refine own_st (fun t_ k_ => XS.iloadN X0.here hx rfl (hb hby d2_0) rfl k_) ?_
  show own_Go p e below _ s₁ (mkF m 1 #[.val (.int i)] [(.int i)])
  by_cases h102 : i = (102 : Int32)
  · subst h102
    show own_Go p e below _ s₁ (mkF m 1 #[.val (.int (102 : Int32))] [(.int (102 : Int32))])
    refine own_st (fun t_ k_ => X0.lookupswitchHit hx (g := (mkF m 1 #[.val (.int (102 : Int32))] [(.int (102 : Int32))])) rfl rfl (hb hby d2_1) (by decide) (a := 102) (off := 83) (by decide) (own_pc (by decide)) t_ k_) ?_
    show own_Go p e below _ s₁ (mkF m 84 #[.val (.int (102 : Int32))] [])
    obtain ⟨T1, X1, e1, st1⟩ := getS2 X0 hx hZ hown (host := "") (Or.inl (hw _ (List.mem_of_getElem? (i := 15) rfl))) Via.refl e0 SD (g := (mkF m 84 #[.val (.int (102 : Int32))] [])) rfl (hb hby d2_84)
    refine own_st st1 ?_
    show own_Go p e below _ T1 (mkF m 87 #[.val (.int (102 : Int32))] [(.ref wD)])
    refine own_st (fun t_ k_ => XS.goto X1.here hx rfl (pc0 := 87) (pc' := 99) rfl (hb hby d2_87) (by decide) (by decide) k_) ?_
    show own_Go p e below _ T1 (mkF m 99 #[.val (.int (102 : Int32))] [(.ref wD)])
    refine own_retA X1 hx hlk Bd.returns rfl rfl (hb hby d2_99) ?_ (by decide) (by decide)
    show QP (own_ex (102 : Int32) wD wR wX) h0 n0 _ T1.heap _
    rw [e1]
    exact ⟨rfl, N0, rfl⟩
  · by_cases h200 : i = (200 : Int32)
    · subst h200
      show own_Go p e below _ s₁ (mkF m 1 #[.val (.int (200 : Int32))] [(.int (200 : Int32))])
      refine own_st (fun t_ k_ => X0.lookupswitchHit hx (g := (mkF m 1 #[.val (.int (200 : Int32))] [(.int (200 : Int32))])) rfl rfl (hb hby d2_1) (by decide) (a := 200) (off := 83) (by decide) (own_pc (by decide)) t_ k_) ?_
      show own_Go p e below _ s₁ (mkF m 84 #[.val (.int (200 : Int32))] [])
      obtain ⟨T1, X1, e1, st1⟩ := getS2 X0 hx hZ hown (host := "") (Or.inl (hw _ (List.mem_of_getElem? (i := 15) rfl))) Via.refl e0 SD (g := (mkF m 84 #[.val (.int (200 : Int32))] [])) rfl (hb hby d2_84)
      refine own_st st1 ?_
      show own_Go p e below _ T1 (mkF m 87 #[.val (.int (200 : Int32))] [(.ref wD)])
      refine own_st (fun t_ k_ => XS.goto X1.here hx rfl (pc0 := 87) (pc' := 99) rfl (hb hby d2_87) (by decide) (by decide) k_) ?_
      show own_Go p e below _ T1 (mkF m 99 #[.val (.int (200 : Int32))] [(.ref wD)])
      refine own_retA X1 hx hlk Bd.returns rfl rfl (hb hby d2_99) ?_ (by decide) (by decide)
      show QP (own_ex (200 : Int32) wD wR wX) h0 n0 _ T1.heap _
      rw [e1]
      exact ⟨rfl, N0, rfl⟩
    · by_cases h201 : i = (201 : Int32)
      · subst h201
        show own_Go p e below _ s₁ (mkF m 1 #[.val (.int (201 : Int32))] [(.int (201 : Int32))])
        refine own_st (fun t_ k_ => X0.lookupswitchHit hx (g := (mkF m 1 #[.val (.int (201 : Int32))] [(.int (201 : Int32))])) rfl rfl (hb hby d2_1) (by decide) (a := 201) (off := 83) (by decide) (own_pc (by decide)) t_ k_) ?_
        show own_Go p e below _ s₁ (mkF m 84 #[.val (.int (201 : Int32))] [])
        obtain ⟨T1, X1, e1, st1⟩ := getS2 X0 hx hZ hown (host := "") (Or.inl (hw _ (List.mem_of_getElem? (i := 15) rfl))) Via.refl e0 SD (g := (mkF m 84 #[.val (.int (201 : Int32))] [])) rfl (hb hby d2_84)
        refine own_st st1 ?_
        show own_Go p e below _ T1 (mkF m 87 #[.val (.int (201 : Int32))] [(.ref wD)])
        refine own_st (fun t_ k_ => XS.goto X1.here hx rfl (pc0 := 87) (pc' := 99) rfl (hb hby d2_87) (by decide) (by decide) k_) ?_
        show own_Go p e below _ T1 (mkF m 99 #[.val (.int (201 : Int32))] [(.ref wD)])
        refine own_retA X1 hx hlk Bd.returns rfl rfl (hb hby d2_99) ?_ (by decide) (by decide)
        show QP (own_ex (201 : Int32) wD wR wX) h0 n0 _ T1.heap _
        rw [e1]
        exact ⟨rfl, N0, rfl⟩
      · by_cases h202 : i = (202 : Int32)
        · subst h202
          show own_Go p e below _ s₁ (mkF m 1 #[.val (.int (202 : Int32))] [(.int (202 : Int32))])
          refine own_st (fun t_ k_ => X0.lookupswitchHit hx (g := (mkF m 1 #[.val (.int (202 : Int32))] [(.int (202 : Int32))])) rfl rfl (hb hby d2_1) (by decide) (a := 202) (off := 83) (by decide) (own_pc (by decide)) t_ k_) ?_
          show own_Go p e below _ s₁ (mkF m 84 #[.val (.int (202 : Int32))] [])
          obtain ⟨T1, X1, e1, st1⟩ := getS2 X0 hx hZ hown (host := "") (Or.inl (hw _ (List.mem_of_getElem? (i := 15) rfl))) Via.refl e0 SD (g := (mkF m 84 #[.val (.int (202 : Int32))] [])) rfl (hb hby d2_84)
          refine own_st st1 ?_
          show own_Go p e below _ T1 (mkF m 87 #[.val (.int (202 : Int32))] [(.ref wD)])
          refine own_st (fun t_ k_ => XS.goto X1.here hx rfl (pc0 := 87) (pc' := 99) rfl (hb hby d2_87) (by decide) (by decide) k_) ?_
          show own_Go p e below _ T1 (mkF m 99 #[.val (.int (202 : Int32))] [(.ref wD)])
          refine own_retA X1 hx hlk Bd.returns rfl rfl (hb hby d2_99) ?_ (by decide) (by decide)
          show QP (own_ex (202 : Int32) wD wR wX) h0 n0 _ T1.heap _
          rw [e1]
          exact ⟨rfl, N0, rfl⟩
        · by_cases h204 : i = (204 : Int32)
          · subst h204
            show own_Go p e below _ s₁ (mkF m 1 #[.val (.int (204 : Int32))] [(.int (204 : Int32))])
            refine own_st (fun t_ k_ => X0.lookupswitchHit hx (g := (mkF m 1 #[.val (.int (204 : Int32))] [(.int (204 : Int32))])) rfl rfl (hb hby d2_1) (by decide) (a := 204) (off := 83) (by decide) (own_pc (by decide)) t_ k_) ?_
            show own_Go p e below _ s₁ (mkF m 84 #[.val (.int (204 : Int32))] [])
            obtain ⟨T1, X1, e1, st1⟩ := getS2 X0 hx hZ hown (host := "") (Or.inl (hw _ (List.mem_of_getElem? (i := 15) rfl))) Via.refl e0 SD (g := (mkF m 84 #[.val (.int (204 : Int32))] [])) rfl (hb hby d2_84)
            refine own_st st1 ?_
            show own_Go p e below _ T1 (mkF m 87 #[.val (.int (204 : Int32))] [(.ref wD)])
            refine own_st (fun t_ k_ => XS.goto X1.here hx rfl (pc0 := 87) (pc' := 99) rfl (hb hby d2_87) (by decide) (by decide) k_) ?_
            show own_Go p e below _ T1 (mkF m 99 #[.val (.int (204 : Int32))] [(.ref wD)])
            refine own_retA X1 hx hlk Bd.returns rfl rfl (hb hby d2_99) ?_ (by decide) (by decide)
            show QP (own_ex (204 : Int32) wD wR wX) h0 n0 _ T1.heap _
            rw [e1]
            exact ⟨rfl, N0, rfl⟩
          · by_cases h500 : i = (500 : Int32)
            · subst h500
              show own_Go p e below _ s₁ (mkF m 1 #[.val (.int (500 : Int32))] [(.int (500 : Int32))])
              refine own_st (fun t_ k_ => X0.lookupswitchHit hx (g := (mkF m 1 #[.val (.int (500 : Int32))] [(.int (500 : Int32))])) rfl rfl (hb hby d2_1) (by decide) (a := 500) (off := 89) (by decide) (own_pc (by decide)) t_ k_) ?_
              show own_Go p e below _ s₁ (mkF m 90 #[.val (.int (500 : Int32))] [])
              obtain ⟨T1, X1, e1, st1⟩ := getS2 X0 hx hZ hown (host := "") (Or.inl (hw _ (List.mem_of_getElem? (i := 18) rfl))) Via.refl e0 SR (g := (mkF m 90 #[.val (.int (500 : Int32))] [])) rfl (hb hby d2_90)
              refine own_st st1 ?_
              show own_Go p e below _ T1 (mkF m 93 #[.val (.int (500 : Int32))] [(.ref wR)])
              refine own_st (fun t_ k_ => XS.goto X1.here hx rfl (pc0 := 93) (pc' := 99) rfl (hb hby d2_93) (by decide) (by decide) k_) ?_
              show own_Go p e below _ T1 (mkF m 99 #[.val (.int (500 : Int32))] [(.ref wR)])
              refine own_retA X1 hx hlk Bd.returns rfl rfl (hb hby d2_99) ?_ (by decide) (by decide)
              show QP (own_ex (500 : Int32) wD wR wX) h0 n0 _ T1.heap _
              rw [e1]
              exact ⟨rfl, N0, rfl⟩
            · by_cases h502 : i = (502 : Int32)
              · subst h502
                show own_Go p e below _ s₁ (mkF m 1 #[.val (.int (502 : Int32))] [(.int (502 : Int32))])
                refine own_st (fun t_ k_ => X0.lookupswitchHit hx (g := (mkF m 1 #[.val (.int (502 : Int32))] [(.int (502 : Int32))])) rfl rfl (hb hby d2_1) (by decide) (a := 502) (off := 89) (by decide) (own_pc (by decide)) t_ k_) ?_
                show own_Go p e below _ s₁ (mkF m 90 #[.val (.int (502 : Int32))] [])
                obtain ⟨T1, X1, e1, st1⟩ := getS2 X0 hx hZ hown (host := "") (Or.inl (hw _ (List.mem_of_getElem? (i := 18) rfl))) Via.refl e0 SR (g := (mkF m 90 #[.val (.int (502 : Int32))] [])) rfl (hb hby d2_90)
                refine own_st st1 ?_
                show own_Go p e below _ T1 (mkF m 93 #[.val (.int (502 : Int32))] [(.ref wR)])
                refine own_st (fun t_ k_ => XS.goto X1.here hx rfl (pc0 := 93) (pc' := 99) rfl (hb hby d2_93) (by decide) (by decide) k_) ?_
                show own_Go p e below _ T1 (mkF m 99 #[.val (.int (502 : Int32))] [(.ref wR)])
                refine own_retA X1 hx hlk Bd.returns rfl rfl (hb hby d2_99) ?_ (by decide) (by decide)
                show QP (own_ex (502 : Int32) wD wR wX) h0 n0 _ T1.heap _
                rw [e1]
                exact ⟨rfl, N0, rfl⟩
              · by_cases h503 : i = (503 : Int32)
                · subst h503
                  show own_Go p e below _ s₁ (mkF m 1 #[.val (.int (503 : Int32))] [(.int (503 : Int32))])
                  refine own_st (fun t_ k_ => X0.lookupswitchHit hx (g := (mkF m 1 #[.val (.int (503 : Int32))] [(.int (503 : Int32))])) rfl rfl (hb hby d2_1) (by decide) (a := 503) (off := 89) (by decide) (own_pc (by decide)) t_ k_) ?_
                  show own_Go p e below _ s₁ (mkF m 90 #[.val (.int (503 : Int32))] [])
                  obtain ⟨T1, X1, e1, st1⟩ := getS2 X0 hx hZ hown (host := "") (Or.inl (hw _ (List.mem_of_getElem? (i := 18) rfl))) Via.refl e0 SR (g := (mkF m 90 #[.val (.int (503 : Int32))] [])) rfl (hb hby d2_90)
                  refine own_st st1 ?_
                  show own_Go p e below _ T1 (mkF m 93 #[.val (.int (503 : Int32))] [(.ref wR)])
                  refine own_st (fun t_ k_ => XS.goto X1.here hx rfl (pc0 := 93) (pc' := 99) rfl (hb hby d2_93) (by decide) (by decide) k_) ?_
                  show own_Go p e below _ T1 (mkF m 99 #[.val (.int (503 : Int32))] [(.ref wR)])
                  refine own_retA X1 hx hlk Bd.returns rfl rfl (hb hby d2_99) ?_ (by decide) (by decide)
                  show QP (own_ex (503 : Int32) wD wR wX) h0 n0 _ T1.heap _
                  rw [e1]
                  exact ⟨rfl, N0, rfl⟩
                · by_cases h504 : i = (504 : Int32)
                  · subst h504
                    show own_Go p e below _ s₁ (mkF m 1 #[.val (.int (504 : Int32))] [(.int (504 : Int32))])
                    refine own_st (fun t_ k_ => X0.lookupswitchHit hx (g := (mkF m 1 #[.val (.int (504 : Int32))] [(.int (504 : Int32))])) rfl rfl (hb hby d2_1) (by decide) (a := 504) (off := 89) (by decide) (own_pc (by decide)) t_ k_) ?_
                    show own_Go p e below _ s₁ (mkF m 90 #[.val (.int (504 : Int32))] [])
                    obtain ⟨T1, X1, e1, st1⟩ := getS2 X0 hx hZ hown (host := "") (Or.inl (hw _ (List.mem_of_getElem? (i := 18) rfl))) Via.refl e0 SR (g := (mkF m 90 #[.val (.int (504 : Int32))] [])) rfl (hb hby d2_90)
                    refine own_st st1 ?_
                    show own_Go p e below _ T1 (mkF m 93 #[.val (.int (504 : Int32))] [(.ref wR)])
                    refine own_st (fun t_ k_ => XS.goto X1.here hx rfl (pc0 := 93) (pc' := 99) rfl (hb hby d2_93) (by decide) (by decide) k_) ?_
                    show own_Go p e below _ T1 (mkF m 99 #[.val (.int (504 : Int32))] [(.ref wR)])
                    refine own_retA X1 hx hlk Bd.returns rfl rfl (hb hby d2_99) ?_ (by decide) (by decide)
                    show QP (own_ex (504 : Int32) wD wR wX) h0 n0 _ T1.heap _
                    rw [e1]
                    exact ⟨rfl, N0, rfl⟩
                  · refine own_st (fun t_ k_ => X0.lookupswitchMiss hx (g := (mkF m 1 #[.val (.int i)] [(.int i)])) rfl rfl (hb hby d2_1) (by decide) (own_miss h102 h200 h201 h202 h204 h500 h502 h503 h504) (own_pc (by decide)) t_ k_) ?_
                    show own_Go p e below _ s₁ (mkF m 96 #[.val (.int i)] [])
                    obtain ⟨T1, X1, e1, st1⟩ := getS2 X0 hx hZ hown (host := "") (Or.inl (hw _ (List.mem_of_getElem? (i := 11) rfl))) Via.refl e0 SX (g := (mkF m 96 #[.val (.int i)] [])) rfl (hb hby d2_96)
                    refine own_st st1 ?_
                    show own_Go p e below _ T1 (mkF m 99 #[.val (.int i)] [(.ref wX)])
                    refine own_retA X1 hx hlk Bd.returns rfl rfl (hb hby d2_99) ?_ (by decide) (by decide)
                    show QP (own_ex i wD wR wX) h0 n0 _ T1.heap _
                    rw [e1]
                    exact ⟨by simp [own_ex, h102, h200, h201, h202, h204, h500, h502, h503, h504], N0, rfl⟩
def Q0 (n0 : Nat) (v : Option Value) (h : Heap) (L : List Loc) : Prop := v = some (.int 1) ∧ Fr n0 L
theorem own_nine (k : Int32) : (k &&& (2147483647 : Int32)) % (9 : Int32) = (0 : Int32) ∨ (k &&& (2147483647 : Int32)) % (9 : Int32) = (1 : Int32) ∨ (k &&& (2147483647 : Int32)) % (9 : Int32) = (2 : Int32) ∨ (k &&& (2147483647 : Int32)) % (9 : Int32) = (3 : Int32) ∨ (k &&& (2147483647 : Int32)) % (9 : Int32) = (4 : Int32) ∨ (k &&& (2147483647 : Int32)) % (9 : Int32) = (5 : Int32) ∨ (k &&& (2147483647 : Int32)) % (9 : Int32) = (6 : Int32) ∨ (k &&& (2147483647 : Int32)) % (9 : Int32) = (7 : Int32) ∨ (k &&& (2147483647 : Int32)) % (9 : Int32) = (8 : Int32) := by
  have h1 := c_and k (2147483647 : Int32) (by decide)
  have h2 := (c_irem (k &&& (2147483647 : Int32)) 9 9 rfl).1 h1.1
  have h3 : ((k &&& (2147483647 : Int32)) % (9 : Int32)).toInt = 0 ∨ ((k &&& (2147483647 : Int32)) % (9 : Int32)).toInt = 1 ∨ ((k &&& (2147483647 : Int32)) % (9 : Int32)).toInt = 2 ∨ ((k &&& (2147483647 : Int32)) % (9 : Int32)).toInt = 3 ∨ ((k &&& (2147483647 : Int32)) % (9 : Int32)).toInt = 4 ∨ ((k &&& (2147483647 : Int32)) % (9 : Int32)).toInt = 5 ∨ ((k &&& (2147483647 : Int32)) % (9 : Int32)).toInt = 6 ∨ ((k &&& (2147483647 : Int32)) % (9 : Int32)).toInt = 7 ∨ ((k &&& (2147483647 : Int32)) % (9 : Int32)).toInt = 8 := by omega
  simp only [← Int32.toInt_inj]
  exact h3
theorem pd_0 : parseMethodDescriptor "(I)Lcom/example/gentle_nudge/gentlenudge/protocol/Outcome;" = some ⟨[.int], some (.object "com/example/gentle_nudge/gentlenudge/protocol/Outcome")⟩ := by decide +kernel
theorem ef_rm0 (m : MethodId) (x0 : Int32) (x1 : Int32) : entryFrame m #[(.int x0), (.int x1)] maxLocals = mkF m 0 #[.val (.int x0), .val (.int x1), .unset, .unset, .unset, .unset] [] := by first | (simp [entryFrame, mkF, argsToLocals, Value.category, maxLocals]; done) | rfl
set_option maxRecDepth 65536 in
set_option maxHeartbeats 40000000 in
theorem rm0 (l : Launch) (Z : State) (a0 : Array Value) (hw : ∀ d ∈ tables_1, d.before a0 Z = true) (ws : List Jvm.Cond) (a b : Int32) (wD wR wX : Addr) (h0 : Heap) (n0 : Nat) (Z0 : n0 ≤ h0.size) (SD : Sta Z h0 "com/example/gentle_nudge/gentlenudge/protocol/Outcome" "DELIVERED" "Lcom/example/gentle_nudge/gentlenudge/protocol/Outcome;" (.ref wD)) (SR : Sta Z h0 "com/example/gentle_nudge/gentlenudge/protocol/Outcome" "RETRY" "Lcom/example/gentle_nudge/gentlenudge/protocol/Outcome;" (.ref wR)) (SX : Sta Z h0 "com/example/gentle_nudge/gentlenudge/protocol/Outcome" "DROPPED" "Lcom/example/gentle_nudge/gentlenudge/protocol/Outcome;" (.ref wX)) :
    MetFree l x (head1 (Jvm.Cond.code x code maxLocals ret :: ws) room_1) (fun a_ U_ => a_ = #[(.int a), (.int b)] ∧ Z.Warmed39 U_.vm ∧ U_.heap = h0) (fun _ _ _ _ _ => True) (fun _ U_ o_ U'_ => ∃ v_ L_, o_ = .returned v_ ∧ Q0 n0 v_ U'_.heap L_ ∧ FrameEnd U_ o_ U'_ L_ 16 128) := by
  refine MetFree.of_bodySF (plainFor_of_name pn_0) hisR ?_
  intro p e s m args below meth c s₁ Bd hml0 hP hK
  obtain ⟨rfl, hZ, hh⟩ := hP
  have hx := Bd.exec
  have hby := Bd.bytes
  have hml : c.maxLocals = 6 := hml0
  have hown : s.vm.findClass "com/example/gentle_nudge/gentlenudge/protocol/OutcomeOfStatusPinLaw" = some m.cls := findClass_of_methodNamed Bd.named
  have hnm := (name_of_methodNamed Bd.named Bd.method).1
  have hlk := BodyLoose.notSynchronized Bd
  have X0 : Stand p l e room_1 s m #[(.int a), (.int b)] below meth c s₁ [] 0 0 := Stand.of_body Bd
  have e0 : s₁.heap = h0 := by rw [← hh, Bd.state]; rfl
  have N0 := Fr.nil n0
  refine own_entry (P := own_End s (Q0 n0) 16 128) (ef_rm0 m a b) ?_
  show own_Go p e below _ s₁ (mkF m 0 #[.val (.int a), .val (.int b), .unset, .unset, .unset, .unset] [])
  refine own_st (fun t_ k_ => XS.bipush X0.here hx rfl (hb hby at_0) k_) ?_
  show own_Go p e below _ s₁ (mkF m 2 #[.val (.int a), .val (.int b), .unset, .unset, .unset, .unset] [(.int (9 : Int32))])
  obtain ⟨T1, h1, k1, X1, e1, E1, A1, st1⟩ := newP X0 hx hZ (hw _ (List.mem_of_getElem? (i := 0) rfl)) e0 (g := (mkF m 2 #[.val (.int a), .val (.int b), .unset, .unset, .unset, .unset] [(.int (9 : Int32))])) rfl (hb hby at_2) rfl (by decide) (cap := 9) (by decide) (by decide) (by decide) (by decide)
  obtain ⟨nb1, g1⟩ : ∃ z, z = h0.size := ⟨_, rfl⟩
  rw [← g1] at A1 st1
  refine own_st st1 ?_
  have g_nb1 : n0 ≤ nb1 := Nat.le_trans (Nat.le_trans Z0 (Keep.refl h0 []).1) (Nat.le_of_eq g1.symm)
  have K1 : Keep h0 h1 [] := (Keep.refl h0 []).ext E1
  have sz_nb1 : h0.size ≤ nb1 := Nat.le_trans (Keep.refl h0 []).1 (Nat.le_of_eq g1.symm)
  have V1 : Arv Z h1 nb1 k1 .int (9 : Int32) [(.int (0 : Int32)), (.int (0 : Int32)), (.int (0 : Int32)), (.int (0 : Int32)), (.int (0 : Int32)), (.int (0 : Int32)), (.int (0 : Int32)), (.int (0 : Int32)), (.int (0 : Int32))] (.int (0 : Int32)) := (Arv.new A1 (by decide)).pad (pad_rep [] (.int (0 : Int32)) 9)
  show own_Go p e below _ T1 (mkF m 4 #[.val (.int a), .val (.int b), .unset, .unset, .unset, .unset] [(.ref nb1)])
  refine own_st (fun t_ k_ => XS.dup X1.here hx rfl (hb hby at_4) rfl rfl k_) ?_
  show own_Go p e below _ T1 (mkF m 5 #[.val (.int a), .val (.int b), .unset, .unset, .unset, .unset] [(.ref nb1), (.ref nb1)])
  refine own_st (fun t_ k_ => XS.iconst X1.here hx rfl (hb hby at_5) k_) ?_
  show own_Go p e below _ T1 (mkF m 6 #[.val (.int a), .val (.int b), .unset, .unset, .unset, .unset] [(.int (0 : Int32)), (.ref nb1), (.ref nb1)])
  refine own_st (fun t_ k_ => XS.bipush X1.here hx rfl (hb hby at_6) k_) ?_
  show own_Go p e below _ T1 (mkF m 8 #[.val (.int a), .val (.int b), .unset, .unset, .unset, .unset] [(.int (102 : Int32)), (.int (0 : Int32)), (.ref nb1), (.ref nb1)])
  obtain ⟨cl2, Ar2, q2, S2, N2', H2, G2⟩ := V1
  have hin2 : ¬ ((0 : Int32) < 0 ∨ cl2.slots.size ≤ ((0 : Int32)).toNatClampNeg) := inb_of S2 ⟨by decide, by decide⟩
  obtain ⟨T2, h2, X2, e2, W2, st2⟩ := stI X1 hx hZ e1 Ar2 (j := (0 : Int32)) hin2 (g := (mkF m 8 #[.val (.int a), .val (.int b), .unset, .unset, .unset, .unset] [(.int (102 : Int32)), (.int (0 : Int32)), (.ref nb1), (.ref nb1)])) rfl rfl (hb hby at_8)
  have V2 : Arv Z h2 nb1 k1 .int (9 : Int32) [(.int (102 : Int32)), (.int (0 : Int32)), (.int (0 : Int32)), (.int (0 : Int32)), (.int (0 : Int32)), (.int (0 : Int32)), (.int (0 : Int32)), (.int (0 : Int32)), (.int (0 : Int32))] (.int (0 : Int32)) := Arv.set Ar2 q2 S2 N2' H2 G2 rfl W2 0 rfl (Nat.le_of_ble_eq_true rfl)
  refine own_st st2 ?_
  have N2 := Fr.snoc X2 N0 g_nb1
  have K2 : Keep h0 h2 [] := K1.wr W2 (Or.inr sz_nb1)
  show own_Go p e below _ T2 (mkF m 9 #[.val (.int a), .val (.int b), .unset, .unset, .unset, .unset] [(.ref nb1)])
  refine own_st (fun t_ k_ => XS.dup X2.here hx rfl (hb hby at_9) rfl rfl k_) ?_
  show own_Go p e below _ T2 (mkF m 10 #[.val (.int a), .val (.int b), .unset, .unset, .unset, .unset] [(.ref nb1), (.ref nb1)])
  refine own_st (fun t_ k_ => XS.iconst X2.here hx rfl (hb hby at_10) k_) ?_
  show own_Go p e below _ T2 (mkF m 11 #[.val (.int a), .val (.int b), .unset, .unset, .unset, .unset] [(.int (1 : Int32)), (.ref nb1), (.ref nb1)])
  refine own_st (fun t_ k_ => XS.sipush X2.here hx rfl (hb hby at_11) k_) ?_
  show own_Go p e below _ T2 (mkF m 14 #[.val (.int a), .val (.int b), .unset, .unset, .unset, .unset] [(.int (200 : Int32)), (.int (1 : Int32)), (.ref nb1), (.ref nb1)])
  obtain ⟨cl3, Ar3, q3, S3, N3', H3, G3⟩ := V2
  have hin3 : ¬ ((1 : Int32) < 0 ∨ cl3.slots.size ≤ ((1 : Int32)).toNatClampNeg) := inb_of S3 ⟨by decide, by decide⟩
  obtain ⟨T3, h3, X3, e3, W3, st3⟩ := stI X2 hx hZ e2 Ar3 (j := (1 : Int32)) hin3 (g := (mkF m 14 #[.val (.int a), .val (.int b), .unset, .unset, .unset, .unset] [(.int (200 : Int32)), (.int (1 : Int32)), (.ref nb1), (.ref nb1)])) rfl rfl (hb hby at_14)
  have V3 : Arv Z h3 nb1 k1 .int (9 : Int32) [(.int (102 : Int32)), (.int (200 : Int32)), (.int (0 : Int32)), (.int (0 : Int32)), (.int (0 : Int32)), (.int (0 : Int32)), (.int (0 : Int32)), (.int (0 : Int32)), (.int (0 : Int32))] (.int (0 : Int32)) := Arv.set Ar3 q3 S3 N3' H3 G3 rfl W3 1 rfl (Nat.le_of_ble_eq_true rfl)
  refine own_st st3 ?_
  have N3 := Fr.snoc X3 N2 g_nb1
  have K3 : Keep h0 h3 [] := K2.wr W3 (Or.inr sz_nb1)
  show own_Go p e below _ T3 (mkF m 15 #[.val (.int a), .val (.int b), .unset, .unset, .unset, .unset] [(.ref nb1)])
  refine own_st (fun t_ k_ => XS.dup X3.here hx rfl (hb hby at_15) rfl rfl k_) ?_
  show own_Go p e below _ T3 (mkF m 16 #[.val (.int a), .val (.int b), .unset, .unset, .unset, .unset] [(.ref nb1), (.ref nb1)])
  refine own_st (fun t_ k_ => XS.iconst X3.here hx rfl (hb hby at_16) k_) ?_
  show own_Go p e below _ T3 (mkF m 17 #[.val (.int a), .val (.int b), .unset, .unset, .unset, .unset] [(.int (2 : Int32)), (.ref nb1), (.ref nb1)])
  refine own_st (fun t_ k_ => XS.sipush X3.here hx rfl (hb hby at_17) k_) ?_
  show own_Go p e below _ T3 (mkF m 20 #[.val (.int a), .val (.int b), .unset, .unset, .unset, .unset] [(.int (201 : Int32)), (.int (2 : Int32)), (.ref nb1), (.ref nb1)])
  obtain ⟨cl4, Ar4, q4, S4, N4', H4, G4⟩ := V3
  have hin4 : ¬ ((2 : Int32) < 0 ∨ cl4.slots.size ≤ ((2 : Int32)).toNatClampNeg) := inb_of S4 ⟨by decide, by decide⟩
  obtain ⟨T4, h4, X4, e4, W4, st4⟩ := stI X3 hx hZ e3 Ar4 (j := (2 : Int32)) hin4 (g := (mkF m 20 #[.val (.int a), .val (.int b), .unset, .unset, .unset, .unset] [(.int (201 : Int32)), (.int (2 : Int32)), (.ref nb1), (.ref nb1)])) rfl rfl (hb hby at_20)
  have V4 : Arv Z h4 nb1 k1 .int (9 : Int32) [(.int (102 : Int32)), (.int (200 : Int32)), (.int (201 : Int32)), (.int (0 : Int32)), (.int (0 : Int32)), (.int (0 : Int32)), (.int (0 : Int32)), (.int (0 : Int32)), (.int (0 : Int32))] (.int (0 : Int32)) := Arv.set Ar4 q4 S4 N4' H4 G4 rfl W4 2 rfl (Nat.le_of_ble_eq_true rfl)
  refine own_st st4 ?_
  have N4 := Fr.snoc X4 N3 g_nb1
  have K4 : Keep h0 h4 [] := K3.wr W4 (Or.inr sz_nb1)
  show own_Go p e below _ T4 (mkF m 21 #[.val (.int a), .val (.int b), .unset, .unset, .unset, .unset] [(.ref nb1)])
  refine own_st (fun t_ k_ => XS.dup X4.here hx rfl (hb hby at_21) rfl rfl k_) ?_
  show own_Go p e below _ T4 (mkF m 22 #[.val (.int a), .val (.int b), .unset, .unset, .unset, .unset] [(.ref nb1), (.ref nb1)])
  refine own_st (fun t_ k_ => XS.iconst X4.here hx rfl (hb hby at_22) k_) ?_
  show own_Go p e below _ T4 (mkF m 23 #[.val (.int a), .val (.int b), .unset, .unset, .unset, .unset] [(.int (3 : Int32)), (.ref nb1), (.ref nb1)])
  refine own_st (fun t_ k_ => XS.sipush X4.here hx rfl (hb hby at_23) k_) ?_
  show own_Go p e below _ T4 (mkF m 26 #[.val (.int a), .val (.int b), .unset, .unset, .unset, .unset] [(.int (202 : Int32)), (.int (3 : Int32)), (.ref nb1), (.ref nb1)])
  obtain ⟨cl5, Ar5, q5, S5, N5', H5, G5⟩ := V4
  have hin5 : ¬ ((3 : Int32) < 0 ∨ cl5.slots.size ≤ ((3 : Int32)).toNatClampNeg) := inb_of S5 ⟨by decide, by decide⟩
  obtain ⟨T5, h5, X5, e5, W5, st5⟩ := stI X4 hx hZ e4 Ar5 (j := (3 : Int32)) hin5 (g := (mkF m 26 #[.val (.int a), .val (.int b), .unset, .unset, .unset, .unset] [(.int (202 : Int32)), (.int (3 : Int32)), (.ref nb1), (.ref nb1)])) rfl rfl (hb hby at_26)
  have V5 : Arv Z h5 nb1 k1 .int (9 : Int32) [(.int (102 : Int32)), (.int (200 : Int32)), (.int (201 : Int32)), (.int (202 : Int32)), (.int (0 : Int32)), (.int (0 : Int32)), (.int (0 : Int32)), (.int (0 : Int32)), (.int (0 : Int32))] (.int (0 : Int32)) := Arv.set Ar5 q5 S5 N5' H5 G5 rfl W5 3 rfl (Nat.le_of_ble_eq_true rfl)
  refine own_st st5 ?_
  have N5 := Fr.snoc X5 N4 g_nb1
  have K5 : Keep h0 h5 [] := K4.wr W5 (Or.inr sz_nb1)
  show own_Go p e below _ T5 (mkF m 27 #[.val (.int a), .val (.int b), .unset, .unset, .unset, .unset] [(.ref nb1)])
  refine own_st (fun t_ k_ => XS.dup X5.here hx rfl (hb hby at_27) rfl rfl k_) ?_
  show own_Go p e below _ T5 (mkF m 28 #[.val (.int a), .val (.int b), .unset, .unset, .unset, .unset] [(.ref nb1), (.ref nb1)])
  refine own_st (fun t_ k_ => XS.iconst X5.here hx rfl (hb hby at_28) k_) ?_
  show own_Go p e below _ T5 (mkF m 29 #[.val (.int a), .val (.int b), .unset, .unset, .unset, .unset] [(.int (4 : Int32)), (.ref nb1), (.ref nb1)])
  refine own_st (fun t_ k_ => XS.sipush X5.here hx rfl (hb hby at_29) k_) ?_
  show own_Go p e below _ T5 (mkF m 32 #[.val (.int a), .val (.int b), .unset, .unset, .unset, .unset] [(.int (204 : Int32)), (.int (4 : Int32)), (.ref nb1), (.ref nb1)])
  obtain ⟨cl6, Ar6, q6, S6, N6', H6, G6⟩ := V5
  have hin6 : ¬ ((4 : Int32) < 0 ∨ cl6.slots.size ≤ ((4 : Int32)).toNatClampNeg) := inb_of S6 ⟨by decide, by decide⟩
  obtain ⟨T6, h6, X6, e6, W6, st6⟩ := stI X5 hx hZ e5 Ar6 (j := (4 : Int32)) hin6 (g := (mkF m 32 #[.val (.int a), .val (.int b), .unset, .unset, .unset, .unset] [(.int (204 : Int32)), (.int (4 : Int32)), (.ref nb1), (.ref nb1)])) rfl rfl (hb hby at_32)
  have V6 : Arv Z h6 nb1 k1 .int (9 : Int32) [(.int (102 : Int32)), (.int (200 : Int32)), (.int (201 : Int32)), (.int (202 : Int32)), (.int (204 : Int32)), (.int (0 : Int32)), (.int (0 : Int32)), (.int (0 : Int32)), (.int (0 : Int32))] (.int (0 : Int32)) := Arv.set Ar6 q6 S6 N6' H6 G6 rfl W6 4 rfl (Nat.le_of_ble_eq_true rfl)
  refine own_st st6 ?_
  have N6 := Fr.snoc X6 N5 g_nb1
  have K6 : Keep h0 h6 [] := K5.wr W6 (Or.inr sz_nb1)
  show own_Go p e below _ T6 (mkF m 33 #[.val (.int a), .val (.int b), .unset, .unset, .unset, .unset] [(.ref nb1)])
  refine own_st (fun t_ k_ => XS.dup X6.here hx rfl (hb hby at_33) rfl rfl k_) ?_
  show own_Go p e below _ T6 (mkF m 34 #[.val (.int a), .val (.int b), .unset, .unset, .unset, .unset] [(.ref nb1), (.ref nb1)])
  refine own_st (fun t_ k_ => XS.iconst X6.here hx rfl (hb hby at_34) k_) ?_
  show own_Go p e below _ T6 (mkF m 35 #[.val (.int a), .val (.int b), .unset, .unset, .unset, .unset] [(.int (5 : Int32)), (.ref nb1), (.ref nb1)])
  refine own_st (fun t_ k_ => XS.sipush X6.here hx rfl (hb hby at_35) k_) ?_
  show own_Go p e below _ T6 (mkF m 38 #[.val (.int a), .val (.int b), .unset, .unset, .unset, .unset] [(.int (500 : Int32)), (.int (5 : Int32)), (.ref nb1), (.ref nb1)])
  obtain ⟨cl7, Ar7, q7, S7, N7', H7, G7⟩ := V6
  have hin7 : ¬ ((5 : Int32) < 0 ∨ cl7.slots.size ≤ ((5 : Int32)).toNatClampNeg) := inb_of S7 ⟨by decide, by decide⟩
  obtain ⟨T7, h7, X7, e7, W7, st7⟩ := stI X6 hx hZ e6 Ar7 (j := (5 : Int32)) hin7 (g := (mkF m 38 #[.val (.int a), .val (.int b), .unset, .unset, .unset, .unset] [(.int (500 : Int32)), (.int (5 : Int32)), (.ref nb1), (.ref nb1)])) rfl rfl (hb hby at_38)
  have V7 : Arv Z h7 nb1 k1 .int (9 : Int32) [(.int (102 : Int32)), (.int (200 : Int32)), (.int (201 : Int32)), (.int (202 : Int32)), (.int (204 : Int32)), (.int (500 : Int32)), (.int (0 : Int32)), (.int (0 : Int32)), (.int (0 : Int32))] (.int (0 : Int32)) := Arv.set Ar7 q7 S7 N7' H7 G7 rfl W7 5 rfl (Nat.le_of_ble_eq_true rfl)
  refine own_st st7 ?_
  have N7 := Fr.snoc X7 N6 g_nb1
  have K7 : Keep h0 h7 [] := K6.wr W7 (Or.inr sz_nb1)
  show own_Go p e below _ T7 (mkF m 39 #[.val (.int a), .val (.int b), .unset, .unset, .unset, .unset] [(.ref nb1)])
  refine own_st (fun t_ k_ => XS.dup X7.here hx rfl (hb hby at_39) rfl rfl k_) ?_
  show own_Go p e below _ T7 (mkF m 40 #[.val (.int a), .val (.int b), .unset, .unset, .unset, .unset] [(.ref nb1), (.ref nb1)])
  refine own_st (fun t_ k_ => XS.bipush X7.here hx rfl (hb hby at_40) k_) ?_
  show own_Go p e below _ T7 (mkF m 42 #[.val (.int a), .val (.int b), .unset, .unset, .unset, .unset] [(.int (6 : Int32)), (.ref nb1), (.ref nb1)])
  refine own_st (fun t_ k_ => XS.sipush X7.here hx rfl (hb hby at_42) k_) ?_
  show own_Go p e below _ T7 (mkF m 45 #[.val (.int a), .val (.int b), .unset, .unset, .unset, .unset] [(.int (502 : Int32)), (.int (6 : Int32)), (.ref nb1), (.ref nb1)])
  obtain ⟨cl8, Ar8, q8, S8, N8', H8, G8⟩ := V7
  have hin8 : ¬ ((6 : Int32) < 0 ∨ cl8.slots.size ≤ ((6 : Int32)).toNatClampNeg) := inb_of S8 ⟨by decide, by decide⟩
  obtain ⟨T8, h8, X8, e8, W8, st8⟩ := stI X7 hx hZ e7 Ar8 (j := (6 : Int32)) hin8 (g := (mkF m 45 #[.val (.int a), .val (.int b), .unset, .unset, .unset, .unset] [(.int (502 : Int32)), (.int (6 : Int32)), (.ref nb1), (.ref nb1)])) rfl rfl (hb hby at_45)
  have V8 : Arv Z h8 nb1 k1 .int (9 : Int32) [(.int (102 : Int32)), (.int (200 : Int32)), (.int (201 : Int32)), (.int (202 : Int32)), (.int (204 : Int32)), (.int (500 : Int32)), (.int (502 : Int32)), (.int (0 : Int32)), (.int (0 : Int32))] (.int (0 : Int32)) := Arv.set Ar8 q8 S8 N8' H8 G8 rfl W8 6 rfl (Nat.le_of_ble_eq_true rfl)
  refine own_st st8 ?_
  have N8 := Fr.snoc X8 N7 g_nb1
  have K8 : Keep h0 h8 [] := K7.wr W8 (Or.inr sz_nb1)
  show own_Go p e below _ T8 (mkF m 46 #[.val (.int a), .val (.int b), .unset, .unset, .unset, .unset] [(.ref nb1)])
  refine own_st (fun t_ k_ => XS.dup X8.here hx rfl (hb hby at_46) rfl rfl k_) ?_
  show own_Go p e below _ T8 (mkF m 47 #[.val (.int a), .val (.int b), .unset, .unset, .unset, .unset] [(.ref nb1), (.ref nb1)])
  refine own_st (fun t_ k_ => XS.bipush X8.here hx rfl (hb hby at_47) k_) ?_
  show own_Go p e below _ T8 (mkF m 49 #[.val (.int a), .val (.int b), .unset, .unset, .unset, .unset] [(.int (7 : Int32)), (.ref nb1), (.ref nb1)])
  refine own_st (fun t_ k_ => XS.sipush X8.here hx rfl (hb hby at_49) k_) ?_
  show own_Go p e below _ T8 (mkF m 52 #[.val (.int a), .val (.int b), .unset, .unset, .unset, .unset] [(.int (503 : Int32)), (.int (7 : Int32)), (.ref nb1), (.ref nb1)])
  obtain ⟨cl9, Ar9, q9, S9, N9', H9, G9⟩ := V8
  have hin9 : ¬ ((7 : Int32) < 0 ∨ cl9.slots.size ≤ ((7 : Int32)).toNatClampNeg) := inb_of S9 ⟨by decide, by decide⟩
  obtain ⟨T9, h9, X9, e9, W9, st9⟩ := stI X8 hx hZ e8 Ar9 (j := (7 : Int32)) hin9 (g := (mkF m 52 #[.val (.int a), .val (.int b), .unset, .unset, .unset, .unset] [(.int (503 : Int32)), (.int (7 : Int32)), (.ref nb1), (.ref nb1)])) rfl rfl (hb hby at_52)
  have V9 : Arv Z h9 nb1 k1 .int (9 : Int32) [(.int (102 : Int32)), (.int (200 : Int32)), (.int (201 : Int32)), (.int (202 : Int32)), (.int (204 : Int32)), (.int (500 : Int32)), (.int (502 : Int32)), (.int (503 : Int32)), (.int (0 : Int32))] (.int (0 : Int32)) := Arv.set Ar9 q9 S9 N9' H9 G9 rfl W9 7 rfl (Nat.le_of_ble_eq_true rfl)
  refine own_st st9 ?_
  have N9 := Fr.snoc X9 N8 g_nb1
  have K9 : Keep h0 h9 [] := K8.wr W9 (Or.inr sz_nb1)
  show own_Go p e below _ T9 (mkF m 53 #[.val (.int a), .val (.int b), .unset, .unset, .unset, .unset] [(.ref nb1)])
  refine own_st (fun t_ k_ => XS.dup X9.here hx rfl (hb hby at_53) rfl rfl k_) ?_
  show own_Go p e below _ T9 (mkF m 54 #[.val (.int a), .val (.int b), .unset, .unset, .unset, .unset] [(.ref nb1), (.ref nb1)])
  refine own_st (fun t_ k_ => XS.bipush X9.here hx rfl (hb hby at_54) k_) ?_
  show own_Go p e below _ T9 (mkF m 56 #[.val (.int a), .val (.int b), .unset, .unset, .unset, .unset] [(.int (8 : Int32)), (.ref nb1), (.ref nb1)])
  refine own_st (fun t_ k_ => XS.sipush X9.here hx rfl (hb hby at_56) k_) ?_
  show own_Go p e below _ T9 (mkF m 59 #[.val (.int a), .val (.int b), .unset, .unset, .unset, .unset] [(.int (504 : Int32)), (.int (8 : Int32)), (.ref nb1), (.ref nb1)])
  obtain ⟨cl10, Ar10, q10, S10, N10', H10, G10⟩ := V9
  have hin10 : ¬ ((8 : Int32) < 0 ∨ cl10.slots.size ≤ ((8 : Int32)).toNatClampNeg) := inb_of S10 ⟨by decide, by decide⟩
  obtain ⟨T10, h10, X10, e10, W10, st10⟩ := stI X9 hx hZ e9 Ar10 (j := (8 : Int32)) hin10 (g := (mkF m 59 #[.val (.int a), .val (.int b), .unset, .unset, .unset, .unset] [(.int (504 : Int32)), (.int (8 : Int32)), (.ref nb1), (.ref nb1)])) rfl rfl (hb hby at_59)
  have V10 : Arv Z h10 nb1 k1 .int (9 : Int32) [(.int (102 : Int32)), (.int (200 : Int32)), (.int (201 : Int32)), (.int (202 : Int32)), (.int (204 : Int32)), (.int (500 : Int32)), (.int (502 : Int32)), (.int (503 : Int32)), (.int (504 : Int32))] (.int (0 : Int32)) := Arv.set Ar10 q10 S10 N10' H10 G10 rfl W10 8 rfl (Nat.le_of_ble_eq_true rfl)
  refine own_st st10 ?_
  have N10 := Fr.snoc X10 N9 g_nb1
  have K10 : Keep h0 h10 [] := K9.wr W10 (Or.inr sz_nb1)
  show own_Go p e below _ T10 (mkF m 60 #[.val (.int a), .val (.int b), .unset, .unset, .unset, .unset] [(.ref nb1)])
  refine own_st (fun t_ k_ => XS.astoreN X10.here hx rfl (hb hby at_60) rfl rfl (l' := #[.val (.int a), .val (.int b), .val (.ref nb1), .unset, .unset, .unset]) rfl k_) ?_
  show own_Go p e below _ T10 (mkF m 61 #[.val (.int a), .val (.int b), .val (.ref nb1), .unset, .unset, .unset] [])
  refine own_st (fun t_ k_ => XS.iloadN X10.here hx rfl (hb hby at_61) rfl k_) ?_
  show own_Go p e below _ T10 (mkF m 62 #[.val (.int a), .val (.int b), .val (.ref nb1), .unset, .unset, .unset] [(.int a)])
  refine own_st (fun t_ k_ => XS.iconst X10.here hx rfl (hb hby at_62) k_) ?_
  show own_Go p e below _ T10 (mkF m 63 #[.val (.int a), .val (.int b), .val (.ref nb1), .unset, .unset, .unset] [(.int (1 : Int32)), (.int a)])
  refine own_st (fun t_ k_ => XS.iand X10.here hx rfl (hb hby at_63) rfl k_) ?_
  show own_Go p e below _ T10 (mkF m 64 #[.val (.int a), .val (.int b), .val (.ref nb1), .unset, .unset, .unset] [(.int (a &&& (1 : Int32)))])
  by_cases hev : (a &&& (1 : Int32)) = (0 : Int32)
  · refine own_st (fun t_ k_ => XS.ifNo X10.here hx rfl (hb hby at_64) rfl ((if0 _ _).trans (teq hev).2) k_) ?_
    show own_Go p e below _ T10 (mkF m 67 #[.val (.int a), .val (.int b), .val (.ref nb1), .unset, .unset, .unset] [])
    refine own_st (fun t_ k_ => XS.iloadN X10.here hx rfl (hb hby at_67) rfl k_) ?_
    show own_Go p e below _ T10 (mkF m 68 #[.val (.int a), .val (.int b), .val (.ref nb1), .unset, .unset, .unset] [(.int b)])
    refine own_st (fun t_ k_ => XS.istoreN X10.here hx rfl (hb hby at_68) rfl (l' := #[.val (.int a), .val (.int b), .val (.ref nb1), .val (.int b), .unset, .unset]) rfl k_) ?_
    show own_Go p e below _ T10 (mkF m 69 #[.val (.int a), .val (.int b), .val (.ref nb1), .val (.int b), .unset, .unset] [])
    refine own_st (fun t_ k_ => XS.goto X10.here hx rfl (pc0 := 69) (pc' := 88) rfl (hb hby at_69) (by decide) (by decide) k_) ?_
    show own_Go p e below _ T10 (mkF m 88 #[.val (.int a), .val (.int b), .val (.ref nb1), .val (.int b), .unset, .unset] [])
    refine own_st (fun t_ k_ => XS.iloadN X10.here hx rfl (hb hby at_88) rfl k_) ?_
    show own_Go p e below _ T10 (mkF m 89 #[.val (.int a), .val (.int b), .val (.ref nb1), .val (.int b), .unset, .unset] [(.int b)])
    have f11 := (Sta.ext E1 SD)
    have f12 := (Sta.wr W2 f11)
    have f13 := (Sta.wr W3 f12)
    have f14 := (Sta.wr W4 f13)
    have f15 := (Sta.wr W5 f14)
    have f16 := (Sta.wr W6 f15)
    have f17 := (Sta.wr W7 f16)
    have f18 := (Sta.wr W8 f17)
    have f19 := (Sta.wr W9 f18)
    have f20 := (Sta.wr W10 f19)
    have f21 := (Sta.ext E1 SR)
    have f22 := (Sta.wr W2 f21)
    have f23 := (Sta.wr W3 f22)
    have f24 := (Sta.wr W4 f23)
    have f25 := (Sta.wr W5 f24)
    have f26 := (Sta.wr W6 f25)
    have f27 := (Sta.wr W7 f26)
    have f28 := (Sta.wr W8 f27)
    have f29 := (Sta.wr W9 f28)
    have f30 := (Sta.wr W10 f29)
    have f31 := (Sta.ext E1 SX)
    have f32 := (Sta.wr W2 f31)
    have f33 := (Sta.wr W3 f32)
    have f34 := (Sta.wr W4 f33)
    have f35 := (Sta.wr W5 f34)
    have f36 := (Sta.wr W6 f35)
    have f37 := (Sta.wr W7 f36)
    have f38 := (Sta.wr W8 f37)
    have f39 := (Sta.wr W9 f38)
    have f40 := (Sta.wr W10 f39)
    refine own_callS X10 hx (y := (⟨"com/example/gentle_nudge/gentlenudge/protocol/OutcomeOfStatusPinLaw", "expectedOf", "(I)Lcom/example/gentle_nudge/gentlenudge/protocol/Outcome;"⟩ : MethodName)) hown (mvT hZ (hw _ (List.mem_of_getElem? (i := 1) rfl))) (mvT hZ (hw _ (List.mem_of_getElem? (i := 2) rfl))) (mvT hZ (hw _ (List.mem_of_getElem? (i := 3) rfl))) (mvT hZ (hw _ (List.mem_of_getElem? (i := 4) rfl))) (by decide) (backOf (W := 0) (rmE l Z a0 hw [] b wD wR wX h10 n0 (Nat.le_trans Z0 K10.1) f20 f30 f40) hZ (hw _ (List.mem_of_getElem? (i := 4) rfl)) (hw _ (List.mem_of_getElem? (i := 3) rfl)) (by decide) (by decide)) (g := (mkF m 89 #[.val (.int a), .val (.int b), .val (.ref nb1), .val (.int b), .unset, .unset] [(.int b)])) rfl (by rw [hml]; rfl) (argsL := [(.int b)]) (rest := []) (lenOf pd_0 rfl) rfl (by show 2 * 0 + _ ≤ _; exact Nat.le_of_eq rfl) (hb hby at_89) rfl e10 (by decide) (by decide) ?_
    rintro v41 T41 L41 X41 ⟨rfl, Nq41, hh41⟩
    have N41 := Fr.app N10 Nq41
    show own_Go p e below _ T41 (mkF m 92 #[.val (.int a), .val (.int b), .val (.ref nb1), .val (.int b), .unset, .unset] [(.ref (own_ex b wD wR wX))])
    refine own_st (fun t_ k_ => XS.astore X41.here hx rfl (hb hby at_92) rfl rfl (l' := #[.val (.int a), .val (.int b), .val (.ref nb1), .val (.int b), .val (.ref (own_ex b wD wR wX)), .unset]) rfl k_) ?_
    show own_Go p e below _ T41 (mkF m 94 #[.val (.int a), .val (.int b), .val (.ref nb1), .val (.int b), .val (.ref (own_ex b wD wR wX)), .unset] [])
    refine own_st (fun t_ k_ => XS.iloadN X41.here hx rfl (hb hby at_94) rfl k_) ?_
    show own_Go p e below _ T41 (mkF m 95 #[.val (.int a), .val (.int b), .val (.ref nb1), .val (.int b), .val (.ref (own_ex b wD wR wX)), .unset] [(.int b)])
    refine own_callS X41 hx (y := (⟨"com/example/gentle_nudge/gentlenudge/protocol/Outcome", "ofStatus", "(I)Lcom/example/gentle_nudge/gentlenudge/protocol/Outcome;"⟩ : MethodName)) hown (mvT hZ (hw _ (List.mem_of_getElem? (i := 8) rfl))) (mvT hZ (hw _ (List.mem_of_getElem? (i := 9) rfl))) (mvT hZ (hw _ (List.mem_of_getElem? (i := 6) rfl))) (mvT hZ (hw _ (List.mem_of_getElem? (i := 10) rfl))) (by decide) (backOf (W := 0) (rmO l Z a0 hw [] b wD wR wX h10 n0 (Nat.le_trans Z0 K10.1) f20 f30 f40) hZ (hw _ (List.mem_of_getElem? (i := 10) rfl)) (hw _ (List.mem_of_getElem? (i := 6) rfl)) (by decide) (by decide)) (g := (mkF m 95 #[.val (.int a), .val (.int b), .val (.ref nb1), .val (.int b), .val (.ref (own_ex b wD wR wX)), .unset] [(.int b)])) rfl (by rw [hml]; rfl) (argsL := [(.int b)]) (rest := []) (lenOf pd_0 rfl) rfl (by show 2 * 0 + _ ≤ _; exact Nat.le_of_eq rfl) (hb hby at_95) rfl hh41 (by decide) (by decide) ?_
    rintro v42 T42 L42 X42 ⟨rfl, Nq42, hh42⟩
    have N42 := Fr.app N41 Nq42
    show own_Go p e below _ T42 (mkF m 98 #[.val (.int a), .val (.int b), .val (.ref nb1), .val (.int b), .val (.ref (own_ex b wD wR wX)), .unset] [(.ref (own_ex b wD wR wX))])
    refine own_st (fun t_ k_ => XS.astore X42.here hx rfl (hb hby at_98) rfl rfl (l' := #[.val (.int a), .val (.int b), .val (.ref nb1), .val (.int b), .val (.ref (own_ex b wD wR wX)), .val (.ref (own_ex b wD wR wX))]) rfl k_) ?_
    show own_Go p e below _ T42 (mkF m 100 #[.val (.int a), .val (.int b), .val (.ref nb1), .val (.int b), .val (.ref (own_ex b wD wR wX)), .val (.ref (own_ex b wD wR wX))] [])
    refine own_st (fun t_ k_ => XS.aload X42.here hx rfl (hb hby at_100) rfl rfl k_) ?_
    show own_Go p e below _ T42 (mkF m 102 #[.val (.int a), .val (.int b), .val (.ref nb1), .val (.int b), .val (.ref (own_ex b wD wR wX)), .val (.ref (own_ex b wD wR wX))] [(.ref (own_ex b wD wR wX))])
    refine own_st (fun t_ k_ => XS.aload X42.here hx rfl (hb hby at_102) rfl rfl k_) ?_
    show own_Go p e below _ T42 (mkF m 104 #[.val (.int a), .val (.int b), .val (.ref nb1), .val (.int b), .val (.ref (own_ex b wD wR wX)), .val (.ref (own_ex b wD wR wX))] [(.ref (own_ex b wD wR wX)), (.ref (own_ex b wD wR wX))])
    refine own_st (fun t_ k_ => Jvm.RoadKit.acmp (g := (mkF m 104 #[.val (.int a), .val (.int b), .val (.ref nb1), .val (.int b), .val (.ref (own_ex b wD wR wX)), .val (.ref (own_ex b wD wR wX))] [(.ref (own_ex b wD wR wX)), (.ref (own_ex b wD wR wX))])) X42 hx rfl rfl rfl (pc0 := 104) (pc' := 107) (same := true) rfl (hb hby at_104) rfl (decide_eq_true rfl) (by decide) (by decide) k_) ?_
    show own_Go p e below _ T42 (mkF m 107 #[.val (.int a), .val (.int b), .val (.ref nb1), .val (.int b), .val (.ref (own_ex b wD wR wX)), .val (.ref (own_ex b wD wR wX))] [])
    refine own_st (fun t_ k_ => XS.iconst X42.here hx rfl (hb hby at_107) k_) ?_
    show own_Go p e below _ T42 (mkF m 108 #[.val (.int a), .val (.int b), .val (.ref nb1), .val (.int b), .val (.ref (own_ex b wD wR wX)), .val (.ref (own_ex b wD wR wX))] [(.int (1 : Int32))])
    refine own_st (fun t_ k_ => XS.goto X42.here hx rfl (pc0 := 108) (pc' := 112) rfl (hb hby at_108) (by decide) (by decide) k_) ?_
    show own_Go p e below _ T42 (mkF m 112 #[.val (.int a), .val (.int b), .val (.ref nb1), .val (.int b), .val (.ref (own_ex b wD wR wX)), .val (.ref (own_ex b wD wR wX))] [(.int (1 : Int32))])
    refine own_retN X42 hx hlk (t := .boolean) Bd.returns (by simp) (hb hby at_112) ?_ (by decide) (by decide)
    show Q0 n0 _ T42.heap _
    rw [hh42]
    exact ⟨rfl, N42⟩
  · refine own_st (fun t_ k_ => XS.ifYes X10.here hx rfl (pc0 := 64) (pc' := 72) rfl (hb hby at_64) rfl ((if0 _ _).trans (feq hev).2) (by decide) (by decide) k_) ?_
    show own_Go p e below _ T10 (mkF m 72 #[.val (.int a), .val (.int b), .val (.ref nb1), .unset, .unset, .unset] [])
    refine own_st (fun t_ k_ => XS.aloadN X10.here hx rfl (hb hby at_72) rfl rfl k_) ?_
    show own_Go p e below _ T10 (mkF m 73 #[.val (.int a), .val (.int b), .val (.ref nb1), .unset, .unset, .unset] [(.ref nb1)])
    refine own_st (fun t_ k_ => XS.iloadN X10.here hx rfl (hb hby at_73) rfl k_) ?_
    show own_Go p e below _ T10 (mkF m 74 #[.val (.int a), .val (.int b), .val (.ref nb1), .unset, .unset, .unset] [(.int b), (.ref nb1)])
    refine own_st (fun t_ k_ => X10.ldcI hx hown (mvT hZ (hw _ (List.mem_of_getElem? (i := 12) rfl))) rfl (hb hby at_74) k_) ?_
    show own_Go p e below _ T10 (mkF m 76 #[.val (.int a), .val (.int b), .val (.ref nb1), .unset, .unset, .unset] [(.int (2147483647 : Int32)), (.int b), (.ref nb1)])
    refine own_st (fun t_ k_ => XS.iand X10.here hx rfl (hb hby at_76) rfl k_) ?_
    show own_Go p e below _ T10 (mkF m 77 #[.val (.int a), .val (.int b), .val (.ref nb1), .unset, .unset, .unset] [(.int (b &&& (2147483647 : Int32))), (.ref nb1)])
    refine own_st (fun t_ k_ => XS.bipush X10.here hx rfl (hb hby at_77) k_) ?_
    show own_Go p e below _ T10 (mkF m 79 #[.val (.int a), .val (.int b), .val (.ref nb1), .unset, .unset, .unset] [(.int (9 : Int32)), (.int (b &&& (2147483647 : Int32))), (.ref nb1)])
    refine own_st (fun t_ k_ => Jvm.RoadKit.iremM (g := (mkF m 79 #[.val (.int a), .val (.int b), .val (.ref nb1), .unset, .unset, .unset] [(.int (9 : Int32)), (.int (b &&& (2147483647 : Int32))), (.ref nb1)])) X10 hx rfl (hb hby at_79) rfl (by decide) k_) ?_
    show own_Go p e below _ T10 (mkF m 80 #[.val (.int a), .val (.int b), .val (.ref nb1), .unset, .unset, .unset] [(.int ((b &&& (2147483647 : Int32)) % (9 : Int32))), (.ref nb1)])
    generalize h_i : ((b &&& (2147483647 : Int32)) % (9 : Int32)) = i
    show own_Go p e below _ T10 (mkF m 80 #[.val (.int a), .val (.int b), .val (.ref nb1), .unset, .unset, .unset] [(.int i), (.ref nb1)])
    rcases (h_i ▸ own_nine b : i = (0 : Int32) ∨ i = (1 : Int32) ∨ i = (2 : Int32) ∨ i = (3 : Int32) ∨ i = (4 : Int32) ∨ i = (5 : Int32) ∨ i = (6 : Int32) ∨ i = (7 : Int32) ∨ i = (8 : Int32)) with rfl | rfl | rfl | rfl | rfl | rfl | rfl | rfl | rfl
    · show own_Go p e below _ T10 (mkF m 80 #[.val (.int a), .val (.int b), .val (.ref nb1), .unset, .unset, .unset] [(.int (0 : Int32)), (.ref nb1)])
      obtain ⟨cl43, Ar43, q43, S43, N43', H43, G43⟩ := V10
      have hin43 : ¬ ((0 : Int32) < 0 ∨ cl43.slots.size ≤ ((0 : Int32)).toNatClampNeg) := inb_of S43 ⟨by decide, by decide⟩
      refine own_st (fun t_ k_ => X10.iaload hx (j := (0 : Int32)) (v := (.int (102 : Int32))) (by rw [e10]; exact Ar43.1) (State.isArrayOf_alike hZ.alike Ar43.2.1) Ar43.2.2 hin43 (Has.at H43 hin43 rfl) (g := (mkF m 80 #[.val (.int a), .val (.int b), .val (.ref nb1), .unset, .unset, .unset] [(.int (0 : Int32)), (.ref nb1)])) rfl rfl (hb hby at_80) t_ k_) ?_
      show own_Go p e below _ T10 (mkF m 81 #[.val (.int a), .val (.int b), .val (.ref nb1), .unset, .unset, .unset] [(.int (102 : Int32))])
      refine own_st (fun t_ k_ => XS.iloadN X10.here hx rfl (hb hby at_81) rfl k_) ?_
      show own_Go p e below _ T10 (mkF m 82 #[.val (.int a), .val (.int b), .val (.ref nb1), .unset, .unset, .unset] [(.int a), (.int (102 : Int32))])
      refine own_st (fun t_ k_ => XS.iconst X10.here hx rfl (hb hby at_82) k_) ?_
      show own_Go p e below _ T10 (mkF m 83 #[.val (.int a), .val (.int b), .val (.ref nb1), .unset, .unset, .unset] [(.int (1 : Int32)), (.int a), (.int (102 : Int32))])
      refine own_st (fun t_ k_ => XS.ishr X10.here hx rfl (hb hby at_83) rfl k_) ?_
      show own_Go p e below _ T10 (mkF m 84 #[.val (.int a), .val (.int b), .val (.ref nb1), .unset, .unset, .unset] [(.int (a >>> ((1 : Int32) &&& 31))), (.int (102 : Int32))])
      refine own_st (fun t_ k_ => XS.iconst X10.here hx rfl (hb hby at_84) k_) ?_
      show own_Go p e below _ T10 (mkF m 85 #[.val (.int a), .val (.int b), .val (.ref nb1), .unset, .unset, .unset] [(.int (3 : Int32)), (.int (a >>> ((1 : Int32) &&& 31))), (.int (102 : Int32))])
      refine own_st (fun t_ k_ => Jvm.RoadKit.iremM (g := (mkF m 85 #[.val (.int a), .val (.int b), .val (.ref nb1), .unset, .unset, .unset] [(.int (3 : Int32)), (.int (a >>> ((1 : Int32) &&& 31))), (.int (102 : Int32))])) X10 hx rfl (hb hby at_85) rfl (by decide) k_) ?_
      show own_Go p e below _ T10 (mkF m 86 #[.val (.int a), .val (.int b), .val (.ref nb1), .unset, .unset, .unset] [(.int ((a >>> ((1 : Int32) &&& 31)) % (3 : Int32))), (.int (102 : Int32))])
      refine own_st (fun t_ k_ => XS.iadd X10.here hx rfl (hb hby at_86) rfl k_) ?_
      show own_Go p e below _ T10 (mkF m 87 #[.val (.int a), .val (.int b), .val (.ref nb1), .unset, .unset, .unset] [(.int ((102 : Int32) + ((a >>> ((1 : Int32) &&& 31)) % (3 : Int32))))])
      refine own_st (fun t_ k_ => XS.istoreN X10.here hx rfl (hb hby at_87) rfl (l' := #[.val (.int a), .val (.int b), .val (.ref nb1), .val (.int ((102 : Int32) + ((a >>> ((1 : Int32) &&& 31)) % (3 : Int32)))), .unset, .unset]) rfl k_) ?_
      show own_Go p e below _ T10 (mkF m 88 #[.val (.int a), .val (.int b), .val (.ref nb1), .val (.int ((102 : Int32) + ((a >>> ((1 : Int32) &&& 31)) % (3 : Int32)))), .unset, .unset] [])
      refine own_st (fun t_ k_ => XS.iloadN X10.here hx rfl (hb hby at_88) rfl k_) ?_
      show own_Go p e below _ T10 (mkF m 89 #[.val (.int a), .val (.int b), .val (.ref nb1), .val (.int ((102 : Int32) + ((a >>> ((1 : Int32) &&& 31)) % (3 : Int32)))), .unset, .unset] [(.int ((102 : Int32) + ((a >>> ((1 : Int32) &&& 31)) % (3 : Int32))))])
      have f44 := (Sta.ext E1 SD)
      have f45 := (Sta.wr W2 f44)
      have f46 := (Sta.wr W3 f45)
      have f47 := (Sta.wr W4 f46)
      have f48 := (Sta.wr W5 f47)
      have f49 := (Sta.wr W6 f48)
      have f50 := (Sta.wr W7 f49)
      have f51 := (Sta.wr W8 f50)
      have f52 := (Sta.wr W9 f51)
      have f53 := (Sta.wr W10 f52)
      have f54 := (Sta.ext E1 SR)
      have f55 := (Sta.wr W2 f54)
      have f56 := (Sta.wr W3 f55)
      have f57 := (Sta.wr W4 f56)
      have f58 := (Sta.wr W5 f57)
      have f59 := (Sta.wr W6 f58)
      have f60 := (Sta.wr W7 f59)
      have f61 := (Sta.wr W8 f60)
      have f62 := (Sta.wr W9 f61)
      have f63 := (Sta.wr W10 f62)
      have f64 := (Sta.ext E1 SX)
      have f65 := (Sta.wr W2 f64)
      have f66 := (Sta.wr W3 f65)
      have f67 := (Sta.wr W4 f66)
      have f68 := (Sta.wr W5 f67)
      have f69 := (Sta.wr W6 f68)
      have f70 := (Sta.wr W7 f69)
      have f71 := (Sta.wr W8 f70)
      have f72 := (Sta.wr W9 f71)
      have f73 := (Sta.wr W10 f72)
      refine own_callS X10 hx (y := (⟨"com/example/gentle_nudge/gentlenudge/protocol/OutcomeOfStatusPinLaw", "expectedOf", "(I)Lcom/example/gentle_nudge/gentlenudge/protocol/Outcome;"⟩ : MethodName)) hown (mvT hZ (hw _ (List.mem_of_getElem? (i := 1) rfl))) (mvT hZ (hw _ (List.mem_of_getElem? (i := 2) rfl))) (mvT hZ (hw _ (List.mem_of_getElem? (i := 3) rfl))) (mvT hZ (hw _ (List.mem_of_getElem? (i := 4) rfl))) (by decide) (backOf (W := 0) (rmE l Z a0 hw [] ((102 : Int32) + ((a >>> ((1 : Int32) &&& 31)) % (3 : Int32))) wD wR wX h10 n0 (Nat.le_trans Z0 K10.1) f53 f63 f73) hZ (hw _ (List.mem_of_getElem? (i := 4) rfl)) (hw _ (List.mem_of_getElem? (i := 3) rfl)) (by decide) (by decide)) (g := (mkF m 89 #[.val (.int a), .val (.int b), .val (.ref nb1), .val (.int ((102 : Int32) + ((a >>> ((1 : Int32) &&& 31)) % (3 : Int32)))), .unset, .unset] [(.int ((102 : Int32) + ((a >>> ((1 : Int32) &&& 31)) % (3 : Int32))))])) rfl (by rw [hml]; rfl) (argsL := [(.int ((102 : Int32) + ((a >>> ((1 : Int32) &&& 31)) % (3 : Int32))))]) (rest := []) (lenOf pd_0 rfl) rfl (by show 2 * 0 + _ ≤ _; exact Nat.le_of_eq rfl) (hb hby at_89) rfl e10 (by decide) (by decide) ?_
      rintro v74 T74 L74 X74 ⟨rfl, Nq74, hh74⟩
      have N74 := Fr.app N10 Nq74
      show own_Go p e below _ T74 (mkF m 92 #[.val (.int a), .val (.int b), .val (.ref nb1), .val (.int ((102 : Int32) + ((a >>> ((1 : Int32) &&& 31)) % (3 : Int32)))), .unset, .unset] [(.ref (own_ex ((102 : Int32) + ((a >>> ((1 : Int32) &&& 31)) % (3 : Int32))) wD wR wX))])
      refine own_st (fun t_ k_ => XS.astore X74.here hx rfl (hb hby at_92) rfl rfl (l' := #[.val (.int a), .val (.int b), .val (.ref nb1), .val (.int ((102 : Int32) + ((a >>> ((1 : Int32) &&& 31)) % (3 : Int32)))), .val (.ref (own_ex ((102 : Int32) + ((a >>> ((1 : Int32) &&& 31)) % (3 : Int32))) wD wR wX)), .unset]) rfl k_) ?_
      show own_Go p e below _ T74 (mkF m 94 #[.val (.int a), .val (.int b), .val (.ref nb1), .val (.int ((102 : Int32) + ((a >>> ((1 : Int32) &&& 31)) % (3 : Int32)))), .val (.ref (own_ex ((102 : Int32) + ((a >>> ((1 : Int32) &&& 31)) % (3 : Int32))) wD wR wX)), .unset] [])
      refine own_st (fun t_ k_ => XS.iloadN X74.here hx rfl (hb hby at_94) rfl k_) ?_
      show own_Go p e below _ T74 (mkF m 95 #[.val (.int a), .val (.int b), .val (.ref nb1), .val (.int ((102 : Int32) + ((a >>> ((1 : Int32) &&& 31)) % (3 : Int32)))), .val (.ref (own_ex ((102 : Int32) + ((a >>> ((1 : Int32) &&& 31)) % (3 : Int32))) wD wR wX)), .unset] [(.int ((102 : Int32) + ((a >>> ((1 : Int32) &&& 31)) % (3 : Int32))))])
      refine own_callS X74 hx (y := (⟨"com/example/gentle_nudge/gentlenudge/protocol/Outcome", "ofStatus", "(I)Lcom/example/gentle_nudge/gentlenudge/protocol/Outcome;"⟩ : MethodName)) hown (mvT hZ (hw _ (List.mem_of_getElem? (i := 8) rfl))) (mvT hZ (hw _ (List.mem_of_getElem? (i := 9) rfl))) (mvT hZ (hw _ (List.mem_of_getElem? (i := 6) rfl))) (mvT hZ (hw _ (List.mem_of_getElem? (i := 10) rfl))) (by decide) (backOf (W := 0) (rmO l Z a0 hw [] ((102 : Int32) + ((a >>> ((1 : Int32) &&& 31)) % (3 : Int32))) wD wR wX h10 n0 (Nat.le_trans Z0 K10.1) f53 f63 f73) hZ (hw _ (List.mem_of_getElem? (i := 10) rfl)) (hw _ (List.mem_of_getElem? (i := 6) rfl)) (by decide) (by decide)) (g := (mkF m 95 #[.val (.int a), .val (.int b), .val (.ref nb1), .val (.int ((102 : Int32) + ((a >>> ((1 : Int32) &&& 31)) % (3 : Int32)))), .val (.ref (own_ex ((102 : Int32) + ((a >>> ((1 : Int32) &&& 31)) % (3 : Int32))) wD wR wX)), .unset] [(.int ((102 : Int32) + ((a >>> ((1 : Int32) &&& 31)) % (3 : Int32))))])) rfl (by rw [hml]; rfl) (argsL := [(.int ((102 : Int32) + ((a >>> ((1 : Int32) &&& 31)) % (3 : Int32))))]) (rest := []) (lenOf pd_0 rfl) rfl (by show 2 * 0 + _ ≤ _; exact Nat.le_of_eq rfl) (hb hby at_95) rfl hh74 (by decide) (by decide) ?_
      rintro v75 T75 L75 X75 ⟨rfl, Nq75, hh75⟩
      have N75 := Fr.app N74 Nq75
      show own_Go p e below _ T75 (mkF m 98 #[.val (.int a), .val (.int b), .val (.ref nb1), .val (.int ((102 : Int32) + ((a >>> ((1 : Int32) &&& 31)) % (3 : Int32)))), .val (.ref (own_ex ((102 : Int32) + ((a >>> ((1 : Int32) &&& 31)) % (3 : Int32))) wD wR wX)), .unset] [(.ref (own_ex ((102 : Int32) + ((a >>> ((1 : Int32) &&& 31)) % (3 : Int32))) wD wR wX))])
      refine own_st (fun t_ k_ => XS.astore X75.here hx rfl (hb hby at_98) rfl rfl (l' := #[.val (.int a), .val (.int b), .val (.ref nb1), .val (.int ((102 : Int32) + ((a >>> ((1 : Int32) &&& 31)) % (3 : Int32)))), .val (.ref (own_ex ((102 : Int32) + ((a >>> ((1 : Int32) &&& 31)) % (3 : Int32))) wD wR wX)), .val (.ref (own_ex ((102 : Int32) + ((a >>> ((1 : Int32) &&& 31)) % (3 : Int32))) wD wR wX))]) rfl k_) ?_
      show own_Go p e below _ T75 (mkF m 100 #[.val (.int a), .val (.int b), .val (.ref nb1), .val (.int ((102 : Int32) + ((a >>> ((1 : Int32) &&& 31)) % (3 : Int32)))), .val (.ref (own_ex ((102 : Int32) + ((a >>> ((1 : Int32) &&& 31)) % (3 : Int32))) wD wR wX)), .val (.ref (own_ex ((102 : Int32) + ((a >>> ((1 : Int32) &&& 31)) % (3 : Int32))) wD wR wX))] [])
      refine own_st (fun t_ k_ => XS.aload X75.here hx rfl (hb hby at_100) rfl rfl k_) ?_
      show own_Go p e below _ T75 (mkF m 102 #[.val (.int a), .val (.int b), .val (.ref nb1), .val (.int ((102 : Int32) + ((a >>> ((1 : Int32) &&& 31)) % (3 : Int32)))), .val (.ref (own_ex ((102 : Int32) + ((a >>> ((1 : Int32) &&& 31)) % (3 : Int32))) wD wR wX)), .val (.ref (own_ex ((102 : Int32) + ((a >>> ((1 : Int32) &&& 31)) % (3 : Int32))) wD wR wX))] [(.ref (own_ex ((102 : Int32) + ((a >>> ((1 : Int32) &&& 31)) % (3 : Int32))) wD wR wX))])
      refine own_st (fun t_ k_ => XS.aload X75.here hx rfl (hb hby at_102) rfl rfl k_) ?_
      show own_Go p e below _ T75 (mkF m 104 #[.val (.int a), .val (.int b), .val (.ref nb1), .val (.int ((102 : Int32) + ((a >>> ((1 : Int32) &&& 31)) % (3 : Int32)))), .val (.ref (own_ex ((102 : Int32) + ((a >>> ((1 : Int32) &&& 31)) % (3 : Int32))) wD wR wX)), .val (.ref (own_ex ((102 : Int32) + ((a >>> ((1 : Int32) &&& 31)) % (3 : Int32))) wD wR wX))] [(.ref (own_ex ((102 : Int32) + ((a >>> ((1 : Int32) &&& 31)) % (3 : Int32))) wD wR wX)), (.ref (own_ex ((102 : Int32) + ((a >>> ((1 : Int32) &&& 31)) % (3 : Int32))) wD wR wX))])
      refine own_st (fun t_ k_ => Jvm.RoadKit.acmp (g := (mkF m 104 #[.val (.int a), .val (.int b), .val (.ref nb1), .val (.int ((102 : Int32) + ((a >>> ((1 : Int32) &&& 31)) % (3 : Int32)))), .val (.ref (own_ex ((102 : Int32) + ((a >>> ((1 : Int32) &&& 31)) % (3 : Int32))) wD wR wX)), .val (.ref (own_ex ((102 : Int32) + ((a >>> ((1 : Int32) &&& 31)) % (3 : Int32))) wD wR wX))] [(.ref (own_ex ((102 : Int32) + ((a >>> ((1 : Int32) &&& 31)) % (3 : Int32))) wD wR wX)), (.ref (own_ex ((102 : Int32) + ((a >>> ((1 : Int32) &&& 31)) % (3 : Int32))) wD wR wX))])) X75 hx rfl rfl rfl (pc0 := 104) (pc' := 107) (same := true) rfl (hb hby at_104) rfl (decide_eq_true rfl) (by decide) (by decide) k_) ?_
      show own_Go p e below _ T75 (mkF m 107 #[.val (.int a), .val (.int b), .val (.ref nb1), .val (.int ((102 : Int32) + ((a >>> ((1 : Int32) &&& 31)) % (3 : Int32)))), .val (.ref (own_ex ((102 : Int32) + ((a >>> ((1 : Int32) &&& 31)) % (3 : Int32))) wD wR wX)), .val (.ref (own_ex ((102 : Int32) + ((a >>> ((1 : Int32) &&& 31)) % (3 : Int32))) wD wR wX))] [])
      refine own_st (fun t_ k_ => XS.iconst X75.here hx rfl (hb hby at_107) k_) ?_
      show own_Go p e below _ T75 (mkF m 108 #[.val (.int a), .val (.int b), .val (.ref nb1), .val (.int ((102 : Int32) + ((a >>> ((1 : Int32) &&& 31)) % (3 : Int32)))), .val (.ref (own_ex ((102 : Int32) + ((a >>> ((1 : Int32) &&& 31)) % (3 : Int32))) wD wR wX)), .val (.ref (own_ex ((102 : Int32) + ((a >>> ((1 : Int32) &&& 31)) % (3 : Int32))) wD wR wX))] [(.int (1 : Int32))])
      refine own_st (fun t_ k_ => XS.goto X75.here hx rfl (pc0 := 108) (pc' := 112) rfl (hb hby at_108) (by decide) (by decide) k_) ?_
      show own_Go p e below _ T75 (mkF m 112 #[.val (.int a), .val (.int b), .val (.ref nb1), .val (.int ((102 : Int32) + ((a >>> ((1 : Int32) &&& 31)) % (3 : Int32)))), .val (.ref (own_ex ((102 : Int32) + ((a >>> ((1 : Int32) &&& 31)) % (3 : Int32))) wD wR wX)), .val (.ref (own_ex ((102 : Int32) + ((a >>> ((1 : Int32) &&& 31)) % (3 : Int32))) wD wR wX))] [(.int (1 : Int32))])
      refine own_retN X75 hx hlk (t := .boolean) Bd.returns (by simp) (hb hby at_112) ?_ (by decide) (by decide)
      show Q0 n0 _ T75.heap _
      rw [hh75]
      exact ⟨rfl, N75⟩
    · show own_Go p e below _ T10 (mkF m 80 #[.val (.int a), .val (.int b), .val (.ref nb1), .unset, .unset, .unset] [(.int (1 : Int32)), (.ref nb1)])
      obtain ⟨cl76, Ar76, q76, S76, N76', H76, G76⟩ := V10
      have hin76 : ¬ ((1 : Int32) < 0 ∨ cl76.slots.size ≤ ((1 : Int32)).toNatClampNeg) := inb_of S76 ⟨by decide, by decide⟩
      refine own_st (fun t_ k_ => X10.iaload hx (j := (1 : Int32)) (v := (.int (200 : Int32))) (by rw [e10]; exact Ar76.1) (State.isArrayOf_alike hZ.alike Ar76.2.1) Ar76.2.2 hin76 (Has.at H76 hin76 rfl) (g := (mkF m 80 #[.val (.int a), .val (.int b), .val (.ref nb1), .unset, .unset, .unset] [(.int (1 : Int32)), (.ref nb1)])) rfl rfl (hb hby at_80) t_ k_) ?_
      show own_Go p e below _ T10 (mkF m 81 #[.val (.int a), .val (.int b), .val (.ref nb1), .unset, .unset, .unset] [(.int (200 : Int32))])
      refine own_st (fun t_ k_ => XS.iloadN X10.here hx rfl (hb hby at_81) rfl k_) ?_
      show own_Go p e below _ T10 (mkF m 82 #[.val (.int a), .val (.int b), .val (.ref nb1), .unset, .unset, .unset] [(.int a), (.int (200 : Int32))])
      refine own_st (fun t_ k_ => XS.iconst X10.here hx rfl (hb hby at_82) k_) ?_
      show own_Go p e below _ T10 (mkF m 83 #[.val (.int a), .val (.int b), .val (.ref nb1), .unset, .unset, .unset] [(.int (1 : Int32)), (.int a), (.int (200 : Int32))])
      refine own_st (fun t_ k_ => XS.ishr X10.here hx rfl (hb hby at_83) rfl k_) ?_
      show own_Go p e below _ T10 (mkF m 84 #[.val (.int a), .val (.int b), .val (.ref nb1), .unset, .unset, .unset] [(.int (a >>> ((1 : Int32) &&& 31))), (.int (200 : Int32))])
      refine own_st (fun t_ k_ => XS.iconst X10.here hx rfl (hb hby at_84) k_) ?_
      show own_Go p e below _ T10 (mkF m 85 #[.val (.int a), .val (.int b), .val (.ref nb1), .unset, .unset, .unset] [(.int (3 : Int32)), (.int (a >>> ((1 : Int32) &&& 31))), (.int (200 : Int32))])
      refine own_st (fun t_ k_ => Jvm.RoadKit.iremM (g := (mkF m 85 #[.val (.int a), .val (.int b), .val (.ref nb1), .unset, .unset, .unset] [(.int (3 : Int32)), (.int (a >>> ((1 : Int32) &&& 31))), (.int (200 : Int32))])) X10 hx rfl (hb hby at_85) rfl (by decide) k_) ?_
      show own_Go p e below _ T10 (mkF m 86 #[.val (.int a), .val (.int b), .val (.ref nb1), .unset, .unset, .unset] [(.int ((a >>> ((1 : Int32) &&& 31)) % (3 : Int32))), (.int (200 : Int32))])
      refine own_st (fun t_ k_ => XS.iadd X10.here hx rfl (hb hby at_86) rfl k_) ?_
      show own_Go p e below _ T10 (mkF m 87 #[.val (.int a), .val (.int b), .val (.ref nb1), .unset, .unset, .unset] [(.int ((200 : Int32) + ((a >>> ((1 : Int32) &&& 31)) % (3 : Int32))))])
      refine own_st (fun t_ k_ => XS.istoreN X10.here hx rfl (hb hby at_87) rfl (l' := #[.val (.int a), .val (.int b), .val (.ref nb1), .val (.int ((200 : Int32) + ((a >>> ((1 : Int32) &&& 31)) % (3 : Int32)))), .unset, .unset]) rfl k_) ?_
      show own_Go p e below _ T10 (mkF m 88 #[.val (.int a), .val (.int b), .val (.ref nb1), .val (.int ((200 : Int32) + ((a >>> ((1 : Int32) &&& 31)) % (3 : Int32)))), .unset, .unset] [])
      refine own_st (fun t_ k_ => XS.iloadN X10.here hx rfl (hb hby at_88) rfl k_) ?_
      show own_Go p e below _ T10 (mkF m 89 #[.val (.int a), .val (.int b), .val (.ref nb1), .val (.int ((200 : Int32) + ((a >>> ((1 : Int32) &&& 31)) % (3 : Int32)))), .unset, .unset] [(.int ((200 : Int32) + ((a >>> ((1 : Int32) &&& 31)) % (3 : Int32))))])
      have f77 := (Sta.ext E1 SD)
      have f78 := (Sta.wr W2 f77)
      have f79 := (Sta.wr W3 f78)
      have f80 := (Sta.wr W4 f79)
      have f81 := (Sta.wr W5 f80)
      have f82 := (Sta.wr W6 f81)
      have f83 := (Sta.wr W7 f82)
      have f84 := (Sta.wr W8 f83)
      have f85 := (Sta.wr W9 f84)
      have f86 := (Sta.wr W10 f85)
      have f87 := (Sta.ext E1 SR)
      have f88 := (Sta.wr W2 f87)
      have f89 := (Sta.wr W3 f88)
      have f90 := (Sta.wr W4 f89)
      have f91 := (Sta.wr W5 f90)
      have f92 := (Sta.wr W6 f91)
      have f93 := (Sta.wr W7 f92)
      have f94 := (Sta.wr W8 f93)
      have f95 := (Sta.wr W9 f94)
      have f96 := (Sta.wr W10 f95)
      have f97 := (Sta.ext E1 SX)
      have f98 := (Sta.wr W2 f97)
      have f99 := (Sta.wr W3 f98)
      have f100 := (Sta.wr W4 f99)
      have f101 := (Sta.wr W5 f100)
      have f102 := (Sta.wr W6 f101)
      have f103 := (Sta.wr W7 f102)
      have f104 := (Sta.wr W8 f103)
      have f105 := (Sta.wr W9 f104)
      have f106 := (Sta.wr W10 f105)
      refine own_callS X10 hx (y := (⟨"com/example/gentle_nudge/gentlenudge/protocol/OutcomeOfStatusPinLaw", "expectedOf", "(I)Lcom/example/gentle_nudge/gentlenudge/protocol/Outcome;"⟩ : MethodName)) hown (mvT hZ (hw _ (List.mem_of_getElem? (i := 1) rfl))) (mvT hZ (hw _ (List.mem_of_getElem? (i := 2) rfl))) (mvT hZ (hw _ (List.mem_of_getElem? (i := 3) rfl))) (mvT hZ (hw _ (List.mem_of_getElem? (i := 4) rfl))) (by decide) (backOf (W := 0) (rmE l Z a0 hw [] ((200 : Int32) + ((a >>> ((1 : Int32) &&& 31)) % (3 : Int32))) wD wR wX h10 n0 (Nat.le_trans Z0 K10.1) f86 f96 f106) hZ (hw _ (List.mem_of_getElem? (i := 4) rfl)) (hw _ (List.mem_of_getElem? (i := 3) rfl)) (by decide) (by decide)) (g := (mkF m 89 #[.val (.int a), .val (.int b), .val (.ref nb1), .val (.int ((200 : Int32) + ((a >>> ((1 : Int32) &&& 31)) % (3 : Int32)))), .unset, .unset] [(.int ((200 : Int32) + ((a >>> ((1 : Int32) &&& 31)) % (3 : Int32))))])) rfl (by rw [hml]; rfl) (argsL := [(.int ((200 : Int32) + ((a >>> ((1 : Int32) &&& 31)) % (3 : Int32))))]) (rest := []) (lenOf pd_0 rfl) rfl (by show 2 * 0 + _ ≤ _; exact Nat.le_of_eq rfl) (hb hby at_89) rfl e10 (by decide) (by decide) ?_
      rintro v107 T107 L107 X107 ⟨rfl, Nq107, hh107⟩
      have N107 := Fr.app N10 Nq107
      show own_Go p e below _ T107 (mkF m 92 #[.val (.int a), .val (.int b), .val (.ref nb1), .val (.int ((200 : Int32) + ((a >>> ((1 : Int32) &&& 31)) % (3 : Int32)))), .unset, .unset] [(.ref (own_ex ((200 : Int32) + ((a >>> ((1 : Int32) &&& 31)) % (3 : Int32))) wD wR wX))])
      refine own_st (fun t_ k_ => XS.astore X107.here hx rfl (hb hby at_92) rfl rfl (l' := #[.val (.int a), .val (.int b), .val (.ref nb1), .val (.int ((200 : Int32) + ((a >>> ((1 : Int32) &&& 31)) % (3 : Int32)))), .val (.ref (own_ex ((200 : Int32) + ((a >>> ((1 : Int32) &&& 31)) % (3 : Int32))) wD wR wX)), .unset]) rfl k_) ?_
      show own_Go p e below _ T107 (mkF m 94 #[.val (.int a), .val (.int b), .val (.ref nb1), .val (.int ((200 : Int32) + ((a >>> ((1 : Int32) &&& 31)) % (3 : Int32)))), .val (.ref (own_ex ((200 : Int32) + ((a >>> ((1 : Int32) &&& 31)) % (3 : Int32))) wD wR wX)), .unset] [])
      refine own_st (fun t_ k_ => XS.iloadN X107.here hx rfl (hb hby at_94) rfl k_) ?_
      show own_Go p e below _ T107 (mkF m 95 #[.val (.int a), .val (.int b), .val (.ref nb1), .val (.int ((200 : Int32) + ((a >>> ((1 : Int32) &&& 31)) % (3 : Int32)))), .val (.ref (own_ex ((200 : Int32) + ((a >>> ((1 : Int32) &&& 31)) % (3 : Int32))) wD wR wX)), .unset] [(.int ((200 : Int32) + ((a >>> ((1 : Int32) &&& 31)) % (3 : Int32))))])
      refine own_callS X107 hx (y := (⟨"com/example/gentle_nudge/gentlenudge/protocol/Outcome", "ofStatus", "(I)Lcom/example/gentle_nudge/gentlenudge/protocol/Outcome;"⟩ : MethodName)) hown (mvT hZ (hw _ (List.mem_of_getElem? (i := 8) rfl))) (mvT hZ (hw _ (List.mem_of_getElem? (i := 9) rfl))) (mvT hZ (hw _ (List.mem_of_getElem? (i := 6) rfl))) (mvT hZ (hw _ (List.mem_of_getElem? (i := 10) rfl))) (by decide) (backOf (W := 0) (rmO l Z a0 hw [] ((200 : Int32) + ((a >>> ((1 : Int32) &&& 31)) % (3 : Int32))) wD wR wX h10 n0 (Nat.le_trans Z0 K10.1) f86 f96 f106) hZ (hw _ (List.mem_of_getElem? (i := 10) rfl)) (hw _ (List.mem_of_getElem? (i := 6) rfl)) (by decide) (by decide)) (g := (mkF m 95 #[.val (.int a), .val (.int b), .val (.ref nb1), .val (.int ((200 : Int32) + ((a >>> ((1 : Int32) &&& 31)) % (3 : Int32)))), .val (.ref (own_ex ((200 : Int32) + ((a >>> ((1 : Int32) &&& 31)) % (3 : Int32))) wD wR wX)), .unset] [(.int ((200 : Int32) + ((a >>> ((1 : Int32) &&& 31)) % (3 : Int32))))])) rfl (by rw [hml]; rfl) (argsL := [(.int ((200 : Int32) + ((a >>> ((1 : Int32) &&& 31)) % (3 : Int32))))]) (rest := []) (lenOf pd_0 rfl) rfl (by show 2 * 0 + _ ≤ _; exact Nat.le_of_eq rfl) (hb hby at_95) rfl hh107 (by decide) (by decide) ?_
      rintro v108 T108 L108 X108 ⟨rfl, Nq108, hh108⟩
      have N108 := Fr.app N107 Nq108
      show own_Go p e below _ T108 (mkF m 98 #[.val (.int a), .val (.int b), .val (.ref nb1), .val (.int ((200 : Int32) + ((a >>> ((1 : Int32) &&& 31)) % (3 : Int32)))), .val (.ref (own_ex ((200 : Int32) + ((a >>> ((1 : Int32) &&& 31)) % (3 : Int32))) wD wR wX)), .unset] [(.ref (own_ex ((200 : Int32) + ((a >>> ((1 : Int32) &&& 31)) % (3 : Int32))) wD wR wX))])
      refine own_st (fun t_ k_ => XS.astore X108.here hx rfl (hb hby at_98) rfl rfl (l' := #[.val (.int a), .val (.int b), .val (.ref nb1), .val (.int ((200 : Int32) + ((a >>> ((1 : Int32) &&& 31)) % (3 : Int32)))), .val (.ref (own_ex ((200 : Int32) + ((a >>> ((1 : Int32) &&& 31)) % (3 : Int32))) wD wR wX)), .val (.ref (own_ex ((200 : Int32) + ((a >>> ((1 : Int32) &&& 31)) % (3 : Int32))) wD wR wX))]) rfl k_) ?_
      show own_Go p e below _ T108 (mkF m 100 #[.val (.int a), .val (.int b), .val (.ref nb1), .val (.int ((200 : Int32) + ((a >>> ((1 : Int32) &&& 31)) % (3 : Int32)))), .val (.ref (own_ex ((200 : Int32) + ((a >>> ((1 : Int32) &&& 31)) % (3 : Int32))) wD wR wX)), .val (.ref (own_ex ((200 : Int32) + ((a >>> ((1 : Int32) &&& 31)) % (3 : Int32))) wD wR wX))] [])
      refine own_st (fun t_ k_ => XS.aload X108.here hx rfl (hb hby at_100) rfl rfl k_) ?_
      show own_Go p e below _ T108 (mkF m 102 #[.val (.int a), .val (.int b), .val (.ref nb1), .val (.int ((200 : Int32) + ((a >>> ((1 : Int32) &&& 31)) % (3 : Int32)))), .val (.ref (own_ex ((200 : Int32) + ((a >>> ((1 : Int32) &&& 31)) % (3 : Int32))) wD wR wX)), .val (.ref (own_ex ((200 : Int32) + ((a >>> ((1 : Int32) &&& 31)) % (3 : Int32))) wD wR wX))] [(.ref (own_ex ((200 : Int32) + ((a >>> ((1 : Int32) &&& 31)) % (3 : Int32))) wD wR wX))])
      refine own_st (fun t_ k_ => XS.aload X108.here hx rfl (hb hby at_102) rfl rfl k_) ?_
      show own_Go p e below _ T108 (mkF m 104 #[.val (.int a), .val (.int b), .val (.ref nb1), .val (.int ((200 : Int32) + ((a >>> ((1 : Int32) &&& 31)) % (3 : Int32)))), .val (.ref (own_ex ((200 : Int32) + ((a >>> ((1 : Int32) &&& 31)) % (3 : Int32))) wD wR wX)), .val (.ref (own_ex ((200 : Int32) + ((a >>> ((1 : Int32) &&& 31)) % (3 : Int32))) wD wR wX))] [(.ref (own_ex ((200 : Int32) + ((a >>> ((1 : Int32) &&& 31)) % (3 : Int32))) wD wR wX)), (.ref (own_ex ((200 : Int32) + ((a >>> ((1 : Int32) &&& 31)) % (3 : Int32))) wD wR wX))])
      refine own_st (fun t_ k_ => Jvm.RoadKit.acmp (g := (mkF m 104 #[.val (.int a), .val (.int b), .val (.ref nb1), .val (.int ((200 : Int32) + ((a >>> ((1 : Int32) &&& 31)) % (3 : Int32)))), .val (.ref (own_ex ((200 : Int32) + ((a >>> ((1 : Int32) &&& 31)) % (3 : Int32))) wD wR wX)), .val (.ref (own_ex ((200 : Int32) + ((a >>> ((1 : Int32) &&& 31)) % (3 : Int32))) wD wR wX))] [(.ref (own_ex ((200 : Int32) + ((a >>> ((1 : Int32) &&& 31)) % (3 : Int32))) wD wR wX)), (.ref (own_ex ((200 : Int32) + ((a >>> ((1 : Int32) &&& 31)) % (3 : Int32))) wD wR wX))])) X108 hx rfl rfl rfl (pc0 := 104) (pc' := 107) (same := true) rfl (hb hby at_104) rfl (decide_eq_true rfl) (by decide) (by decide) k_) ?_
      show own_Go p e below _ T108 (mkF m 107 #[.val (.int a), .val (.int b), .val (.ref nb1), .val (.int ((200 : Int32) + ((a >>> ((1 : Int32) &&& 31)) % (3 : Int32)))), .val (.ref (own_ex ((200 : Int32) + ((a >>> ((1 : Int32) &&& 31)) % (3 : Int32))) wD wR wX)), .val (.ref (own_ex ((200 : Int32) + ((a >>> ((1 : Int32) &&& 31)) % (3 : Int32))) wD wR wX))] [])
      refine own_st (fun t_ k_ => XS.iconst X108.here hx rfl (hb hby at_107) k_) ?_
      show own_Go p e below _ T108 (mkF m 108 #[.val (.int a), .val (.int b), .val (.ref nb1), .val (.int ((200 : Int32) + ((a >>> ((1 : Int32) &&& 31)) % (3 : Int32)))), .val (.ref (own_ex ((200 : Int32) + ((a >>> ((1 : Int32) &&& 31)) % (3 : Int32))) wD wR wX)), .val (.ref (own_ex ((200 : Int32) + ((a >>> ((1 : Int32) &&& 31)) % (3 : Int32))) wD wR wX))] [(.int (1 : Int32))])
      refine own_st (fun t_ k_ => XS.goto X108.here hx rfl (pc0 := 108) (pc' := 112) rfl (hb hby at_108) (by decide) (by decide) k_) ?_
      show own_Go p e below _ T108 (mkF m 112 #[.val (.int a), .val (.int b), .val (.ref nb1), .val (.int ((200 : Int32) + ((a >>> ((1 : Int32) &&& 31)) % (3 : Int32)))), .val (.ref (own_ex ((200 : Int32) + ((a >>> ((1 : Int32) &&& 31)) % (3 : Int32))) wD wR wX)), .val (.ref (own_ex ((200 : Int32) + ((a >>> ((1 : Int32) &&& 31)) % (3 : Int32))) wD wR wX))] [(.int (1 : Int32))])
      refine own_retN X108 hx hlk (t := .boolean) Bd.returns (by simp) (hb hby at_112) ?_ (by decide) (by decide)
      show Q0 n0 _ T108.heap _
      rw [hh108]
      exact ⟨rfl, N108⟩
    · show own_Go p e below _ T10 (mkF m 80 #[.val (.int a), .val (.int b), .val (.ref nb1), .unset, .unset, .unset] [(.int (2 : Int32)), (.ref nb1)])
      obtain ⟨cl109, Ar109, q109, S109, N109', H109, G109⟩ := V10
      have hin109 : ¬ ((2 : Int32) < 0 ∨ cl109.slots.size ≤ ((2 : Int32)).toNatClampNeg) := inb_of S109 ⟨by decide, by decide⟩
      refine own_st (fun t_ k_ => X10.iaload hx (j := (2 : Int32)) (v := (.int (201 : Int32))) (by rw [e10]; exact Ar109.1) (State.isArrayOf_alike hZ.alike Ar109.2.1) Ar109.2.2 hin109 (Has.at H109 hin109 rfl) (g := (mkF m 80 #[.val (.int a), .val (.int b), .val (.ref nb1), .unset, .unset, .unset] [(.int (2 : Int32)), (.ref nb1)])) rfl rfl (hb hby at_80) t_ k_) ?_
      show own_Go p e below _ T10 (mkF m 81 #[.val (.int a), .val (.int b), .val (.ref nb1), .unset, .unset, .unset] [(.int (201 : Int32))])
      refine own_st (fun t_ k_ => XS.iloadN X10.here hx rfl (hb hby at_81) rfl k_) ?_
      show own_Go p e below _ T10 (mkF m 82 #[.val (.int a), .val (.int b), .val (.ref nb1), .unset, .unset, .unset] [(.int a), (.int (201 : Int32))])
      refine own_st (fun t_ k_ => XS.iconst X10.here hx rfl (hb hby at_82) k_) ?_
      show own_Go p e below _ T10 (mkF m 83 #[.val (.int a), .val (.int b), .val (.ref nb1), .unset, .unset, .unset] [(.int (1 : Int32)), (.int a), (.int (201 : Int32))])
      refine own_st (fun t_ k_ => XS.ishr X10.here hx rfl (hb hby at_83) rfl k_) ?_
      show own_Go p e below _ T10 (mkF m 84 #[.val (.int a), .val (.int b), .val (.ref nb1), .unset, .unset, .unset] [(.int (a >>> ((1 : Int32) &&& 31))), (.int (201 : Int32))])
      refine own_st (fun t_ k_ => XS.iconst X10.here hx rfl (hb hby at_84) k_) ?_
      show own_Go p e below _ T10 (mkF m 85 #[.val (.int a), .val (.int b), .val (.ref nb1), .unset, .unset, .unset] [(.int (3 : Int32)), (.int (a >>> ((1 : Int32) &&& 31))), (.int (201 : Int32))])
      refine own_st (fun t_ k_ => Jvm.RoadKit.iremM (g := (mkF m 85 #[.val (.int a), .val (.int b), .val (.ref nb1), .unset, .unset, .unset] [(.int (3 : Int32)), (.int (a >>> ((1 : Int32) &&& 31))), (.int (201 : Int32))])) X10 hx rfl (hb hby at_85) rfl (by decide) k_) ?_
      show own_Go p e below _ T10 (mkF m 86 #[.val (.int a), .val (.int b), .val (.ref nb1), .unset, .unset, .unset] [(.int ((a >>> ((1 : Int32) &&& 31)) % (3 : Int32))), (.int (201 : Int32))])
      refine own_st (fun t_ k_ => XS.iadd X10.here hx rfl (hb hby at_86) rfl k_) ?_
      show own_Go p e below _ T10 (mkF m 87 #[.val (.int a), .val (.int b), .val (.ref nb1), .unset, .unset, .unset] [(.int ((201 : Int32) + ((a >>> ((1 : Int32) &&& 31)) % (3 : Int32))))])
      refine own_st (fun t_ k_ => XS.istoreN X10.here hx rfl (hb hby at_87) rfl (l' := #[.val (.int a), .val (.int b), .val (.ref nb1), .val (.int ((201 : Int32) + ((a >>> ((1 : Int32) &&& 31)) % (3 : Int32)))), .unset, .unset]) rfl k_) ?_
      show own_Go p e below _ T10 (mkF m 88 #[.val (.int a), .val (.int b), .val (.ref nb1), .val (.int ((201 : Int32) + ((a >>> ((1 : Int32) &&& 31)) % (3 : Int32)))), .unset, .unset] [])
      refine own_st (fun t_ k_ => XS.iloadN X10.here hx rfl (hb hby at_88) rfl k_) ?_
      show own_Go p e below _ T10 (mkF m 89 #[.val (.int a), .val (.int b), .val (.ref nb1), .val (.int ((201 : Int32) + ((a >>> ((1 : Int32) &&& 31)) % (3 : Int32)))), .unset, .unset] [(.int ((201 : Int32) + ((a >>> ((1 : Int32) &&& 31)) % (3 : Int32))))])
      have f110 := (Sta.ext E1 SD)
      have f111 := (Sta.wr W2 f110)
      have f112 := (Sta.wr W3 f111)
      have f113 := (Sta.wr W4 f112)
      have f114 := (Sta.wr W5 f113)
      have f115 := (Sta.wr W6 f114)
      have f116 := (Sta.wr W7 f115)
      have f117 := (Sta.wr W8 f116)
      have f118 := (Sta.wr W9 f117)
      have f119 := (Sta.wr W10 f118)
      have f120 := (Sta.ext E1 SR)
      have f121 := (Sta.wr W2 f120)
      have f122 := (Sta.wr W3 f121)
      have f123 := (Sta.wr W4 f122)
      have f124 := (Sta.wr W5 f123)
      have f125 := (Sta.wr W6 f124)
      have f126 := (Sta.wr W7 f125)
      have f127 := (Sta.wr W8 f126)
      have f128 := (Sta.wr W9 f127)
      have f129 := (Sta.wr W10 f128)
      have f130 := (Sta.ext E1 SX)
      have f131 := (Sta.wr W2 f130)
      have f132 := (Sta.wr W3 f131)
      have f133 := (Sta.wr W4 f132)
      have f134 := (Sta.wr W5 f133)
      have f135 := (Sta.wr W6 f134)
      have f136 := (Sta.wr W7 f135)
      have f137 := (Sta.wr W8 f136)
      have f138 := (Sta.wr W9 f137)
      have f139 := (Sta.wr W10 f138)
      refine own_callS X10 hx (y := (⟨"com/example/gentle_nudge/gentlenudge/protocol/OutcomeOfStatusPinLaw", "expectedOf", "(I)Lcom/example/gentle_nudge/gentlenudge/protocol/Outcome;"⟩ : MethodName)) hown (mvT hZ (hw _ (List.mem_of_getElem? (i := 1) rfl))) (mvT hZ (hw _ (List.mem_of_getElem? (i := 2) rfl))) (mvT hZ (hw _ (List.mem_of_getElem? (i := 3) rfl))) (mvT hZ (hw _ (List.mem_of_getElem? (i := 4) rfl))) (by decide) (backOf (W := 0) (rmE l Z a0 hw [] ((201 : Int32) + ((a >>> ((1 : Int32) &&& 31)) % (3 : Int32))) wD wR wX h10 n0 (Nat.le_trans Z0 K10.1) f119 f129 f139) hZ (hw _ (List.mem_of_getElem? (i := 4) rfl)) (hw _ (List.mem_of_getElem? (i := 3) rfl)) (by decide) (by decide)) (g := (mkF m 89 #[.val (.int a), .val (.int b), .val (.ref nb1), .val (.int ((201 : Int32) + ((a >>> ((1 : Int32) &&& 31)) % (3 : Int32)))), .unset, .unset] [(.int ((201 : Int32) + ((a >>> ((1 : Int32) &&& 31)) % (3 : Int32))))])) rfl (by rw [hml]; rfl) (argsL := [(.int ((201 : Int32) + ((a >>> ((1 : Int32) &&& 31)) % (3 : Int32))))]) (rest := []) (lenOf pd_0 rfl) rfl (by show 2 * 0 + _ ≤ _; exact Nat.le_of_eq rfl) (hb hby at_89) rfl e10 (by decide) (by decide) ?_
      rintro v140 T140 L140 X140 ⟨rfl, Nq140, hh140⟩
      have N140 := Fr.app N10 Nq140
      show own_Go p e below _ T140 (mkF m 92 #[.val (.int a), .val (.int b), .val (.ref nb1), .val (.int ((201 : Int32) + ((a >>> ((1 : Int32) &&& 31)) % (3 : Int32)))), .unset, .unset] [(.ref (own_ex ((201 : Int32) + ((a >>> ((1 : Int32) &&& 31)) % (3 : Int32))) wD wR wX))])
      refine own_st (fun t_ k_ => XS.astore X140.here hx rfl (hb hby at_92) rfl rfl (l' := #[.val (.int a), .val (.int b), .val (.ref nb1), .val (.int ((201 : Int32) + ((a >>> ((1 : Int32) &&& 31)) % (3 : Int32)))), .val (.ref (own_ex ((201 : Int32) + ((a >>> ((1 : Int32) &&& 31)) % (3 : Int32))) wD wR wX)), .unset]) rfl k_) ?_
      show own_Go p e below _ T140 (mkF m 94 #[.val (.int a), .val (.int b), .val (.ref nb1), .val (.int ((201 : Int32) + ((a >>> ((1 : Int32) &&& 31)) % (3 : Int32)))), .val (.ref (own_ex ((201 : Int32) + ((a >>> ((1 : Int32) &&& 31)) % (3 : Int32))) wD wR wX)), .unset] [])
      refine own_st (fun t_ k_ => XS.iloadN X140.here hx rfl (hb hby at_94) rfl k_) ?_
      show own_Go p e below _ T140 (mkF m 95 #[.val (.int a), .val (.int b), .val (.ref nb1), .val (.int ((201 : Int32) + ((a >>> ((1 : Int32) &&& 31)) % (3 : Int32)))), .val (.ref (own_ex ((201 : Int32) + ((a >>> ((1 : Int32) &&& 31)) % (3 : Int32))) wD wR wX)), .unset] [(.int ((201 : Int32) + ((a >>> ((1 : Int32) &&& 31)) % (3 : Int32))))])
      refine own_callS X140 hx (y := (⟨"com/example/gentle_nudge/gentlenudge/protocol/Outcome", "ofStatus", "(I)Lcom/example/gentle_nudge/gentlenudge/protocol/Outcome;"⟩ : MethodName)) hown (mvT hZ (hw _ (List.mem_of_getElem? (i := 8) rfl))) (mvT hZ (hw _ (List.mem_of_getElem? (i := 9) rfl))) (mvT hZ (hw _ (List.mem_of_getElem? (i := 6) rfl))) (mvT hZ (hw _ (List.mem_of_getElem? (i := 10) rfl))) (by decide) (backOf (W := 0) (rmO l Z a0 hw [] ((201 : Int32) + ((a >>> ((1 : Int32) &&& 31)) % (3 : Int32))) wD wR wX h10 n0 (Nat.le_trans Z0 K10.1) f119 f129 f139) hZ (hw _ (List.mem_of_getElem? (i := 10) rfl)) (hw _ (List.mem_of_getElem? (i := 6) rfl)) (by decide) (by decide)) (g := (mkF m 95 #[.val (.int a), .val (.int b), .val (.ref nb1), .val (.int ((201 : Int32) + ((a >>> ((1 : Int32) &&& 31)) % (3 : Int32)))), .val (.ref (own_ex ((201 : Int32) + ((a >>> ((1 : Int32) &&& 31)) % (3 : Int32))) wD wR wX)), .unset] [(.int ((201 : Int32) + ((a >>> ((1 : Int32) &&& 31)) % (3 : Int32))))])) rfl (by rw [hml]; rfl) (argsL := [(.int ((201 : Int32) + ((a >>> ((1 : Int32) &&& 31)) % (3 : Int32))))]) (rest := []) (lenOf pd_0 rfl) rfl (by show 2 * 0 + _ ≤ _; exact Nat.le_of_eq rfl) (hb hby at_95) rfl hh140 (by decide) (by decide) ?_
      rintro v141 T141 L141 X141 ⟨rfl, Nq141, hh141⟩
      have N141 := Fr.app N140 Nq141
      show own_Go p e below _ T141 (mkF m 98 #[.val (.int a), .val (.int b), .val (.ref nb1), .val (.int ((201 : Int32) + ((a >>> ((1 : Int32) &&& 31)) % (3 : Int32)))), .val (.ref (own_ex ((201 : Int32) + ((a >>> ((1 : Int32) &&& 31)) % (3 : Int32))) wD wR wX)), .unset] [(.ref (own_ex ((201 : Int32) + ((a >>> ((1 : Int32) &&& 31)) % (3 : Int32))) wD wR wX))])
      refine own_st (fun t_ k_ => XS.astore X141.here hx rfl (hb hby at_98) rfl rfl (l' := #[.val (.int a), .val (.int b), .val (.ref nb1), .val (.int ((201 : Int32) + ((a >>> ((1 : Int32) &&& 31)) % (3 : Int32)))), .val (.ref (own_ex ((201 : Int32) + ((a >>> ((1 : Int32) &&& 31)) % (3 : Int32))) wD wR wX)), .val (.ref (own_ex ((201 : Int32) + ((a >>> ((1 : Int32) &&& 31)) % (3 : Int32))) wD wR wX))]) rfl k_) ?_
      show own_Go p e below _ T141 (mkF m 100 #[.val (.int a), .val (.int b), .val (.ref nb1), .val (.int ((201 : Int32) + ((a >>> ((1 : Int32) &&& 31)) % (3 : Int32)))), .val (.ref (own_ex ((201 : Int32) + ((a >>> ((1 : Int32) &&& 31)) % (3 : Int32))) wD wR wX)), .val (.ref (own_ex ((201 : Int32) + ((a >>> ((1 : Int32) &&& 31)) % (3 : Int32))) wD wR wX))] [])
      refine own_st (fun t_ k_ => XS.aload X141.here hx rfl (hb hby at_100) rfl rfl k_) ?_
      show own_Go p e below _ T141 (mkF m 102 #[.val (.int a), .val (.int b), .val (.ref nb1), .val (.int ((201 : Int32) + ((a >>> ((1 : Int32) &&& 31)) % (3 : Int32)))), .val (.ref (own_ex ((201 : Int32) + ((a >>> ((1 : Int32) &&& 31)) % (3 : Int32))) wD wR wX)), .val (.ref (own_ex ((201 : Int32) + ((a >>> ((1 : Int32) &&& 31)) % (3 : Int32))) wD wR wX))] [(.ref (own_ex ((201 : Int32) + ((a >>> ((1 : Int32) &&& 31)) % (3 : Int32))) wD wR wX))])
      refine own_st (fun t_ k_ => XS.aload X141.here hx rfl (hb hby at_102) rfl rfl k_) ?_
      show own_Go p e below _ T141 (mkF m 104 #[.val (.int a), .val (.int b), .val (.ref nb1), .val (.int ((201 : Int32) + ((a >>> ((1 : Int32) &&& 31)) % (3 : Int32)))), .val (.ref (own_ex ((201 : Int32) + ((a >>> ((1 : Int32) &&& 31)) % (3 : Int32))) wD wR wX)), .val (.ref (own_ex ((201 : Int32) + ((a >>> ((1 : Int32) &&& 31)) % (3 : Int32))) wD wR wX))] [(.ref (own_ex ((201 : Int32) + ((a >>> ((1 : Int32) &&& 31)) % (3 : Int32))) wD wR wX)), (.ref (own_ex ((201 : Int32) + ((a >>> ((1 : Int32) &&& 31)) % (3 : Int32))) wD wR wX))])
      refine own_st (fun t_ k_ => Jvm.RoadKit.acmp (g := (mkF m 104 #[.val (.int a), .val (.int b), .val (.ref nb1), .val (.int ((201 : Int32) + ((a >>> ((1 : Int32) &&& 31)) % (3 : Int32)))), .val (.ref (own_ex ((201 : Int32) + ((a >>> ((1 : Int32) &&& 31)) % (3 : Int32))) wD wR wX)), .val (.ref (own_ex ((201 : Int32) + ((a >>> ((1 : Int32) &&& 31)) % (3 : Int32))) wD wR wX))] [(.ref (own_ex ((201 : Int32) + ((a >>> ((1 : Int32) &&& 31)) % (3 : Int32))) wD wR wX)), (.ref (own_ex ((201 : Int32) + ((a >>> ((1 : Int32) &&& 31)) % (3 : Int32))) wD wR wX))])) X141 hx rfl rfl rfl (pc0 := 104) (pc' := 107) (same := true) rfl (hb hby at_104) rfl (decide_eq_true rfl) (by decide) (by decide) k_) ?_
      show own_Go p e below _ T141 (mkF m 107 #[.val (.int a), .val (.int b), .val (.ref nb1), .val (.int ((201 : Int32) + ((a >>> ((1 : Int32) &&& 31)) % (3 : Int32)))), .val (.ref (own_ex ((201 : Int32) + ((a >>> ((1 : Int32) &&& 31)) % (3 : Int32))) wD wR wX)), .val (.ref (own_ex ((201 : Int32) + ((a >>> ((1 : Int32) &&& 31)) % (3 : Int32))) wD wR wX))] [])
      refine own_st (fun t_ k_ => XS.iconst X141.here hx rfl (hb hby at_107) k_) ?_
      show own_Go p e below _ T141 (mkF m 108 #[.val (.int a), .val (.int b), .val (.ref nb1), .val (.int ((201 : Int32) + ((a >>> ((1 : Int32) &&& 31)) % (3 : Int32)))), .val (.ref (own_ex ((201 : Int32) + ((a >>> ((1 : Int32) &&& 31)) % (3 : Int32))) wD wR wX)), .val (.ref (own_ex ((201 : Int32) + ((a >>> ((1 : Int32) &&& 31)) % (3 : Int32))) wD wR wX))] [(.int (1 : Int32))])
      refine own_st (fun t_ k_ => XS.goto X141.here hx rfl (pc0 := 108) (pc' := 112) rfl (hb hby at_108) (by decide) (by decide) k_) ?_
      show own_Go p e below _ T141 (mkF m 112 #[.val (.int a), .val (.int b), .val (.ref nb1), .val (.int ((201 : Int32) + ((a >>> ((1 : Int32) &&& 31)) % (3 : Int32)))), .val (.ref (own_ex ((201 : Int32) + ((a >>> ((1 : Int32) &&& 31)) % (3 : Int32))) wD wR wX)), .val (.ref (own_ex ((201 : Int32) + ((a >>> ((1 : Int32) &&& 31)) % (3 : Int32))) wD wR wX))] [(.int (1 : Int32))])
      refine own_retN X141 hx hlk (t := .boolean) Bd.returns (by simp) (hb hby at_112) ?_ (by decide) (by decide)
      show Q0 n0 _ T141.heap _
      rw [hh141]
      exact ⟨rfl, N141⟩
    · show own_Go p e below _ T10 (mkF m 80 #[.val (.int a), .val (.int b), .val (.ref nb1), .unset, .unset, .unset] [(.int (3 : Int32)), (.ref nb1)])
      obtain ⟨cl142, Ar142, q142, S142, N142', H142, G142⟩ := V10
      have hin142 : ¬ ((3 : Int32) < 0 ∨ cl142.slots.size ≤ ((3 : Int32)).toNatClampNeg) := inb_of S142 ⟨by decide, by decide⟩
      refine own_st (fun t_ k_ => X10.iaload hx (j := (3 : Int32)) (v := (.int (202 : Int32))) (by rw [e10]; exact Ar142.1) (State.isArrayOf_alike hZ.alike Ar142.2.1) Ar142.2.2 hin142 (Has.at H142 hin142 rfl) (g := (mkF m 80 #[.val (.int a), .val (.int b), .val (.ref nb1), .unset, .unset, .unset] [(.int (3 : Int32)), (.ref nb1)])) rfl rfl (hb hby at_80) t_ k_) ?_
      show own_Go p e below _ T10 (mkF m 81 #[.val (.int a), .val (.int b), .val (.ref nb1), .unset, .unset, .unset] [(.int (202 : Int32))])
      refine own_st (fun t_ k_ => XS.iloadN X10.here hx rfl (hb hby at_81) rfl k_) ?_
      show own_Go p e below _ T10 (mkF m 82 #[.val (.int a), .val (.int b), .val (.ref nb1), .unset, .unset, .unset] [(.int a), (.int (202 : Int32))])
      refine own_st (fun t_ k_ => XS.iconst X10.here hx rfl (hb hby at_82) k_) ?_
      show own_Go p e below _ T10 (mkF m 83 #[.val (.int a), .val (.int b), .val (.ref nb1), .unset, .unset, .unset] [(.int (1 : Int32)), (.int a), (.int (202 : Int32))])
      refine own_st (fun t_ k_ => XS.ishr X10.here hx rfl (hb hby at_83) rfl k_) ?_
      show own_Go p e below _ T10 (mkF m 84 #[.val (.int a), .val (.int b), .val (.ref nb1), .unset, .unset, .unset] [(.int (a >>> ((1 : Int32) &&& 31))), (.int (202 : Int32))])
      refine own_st (fun t_ k_ => XS.iconst X10.here hx rfl (hb hby at_84) k_) ?_
      show own_Go p e below _ T10 (mkF m 85 #[.val (.int a), .val (.int b), .val (.ref nb1), .unset, .unset, .unset] [(.int (3 : Int32)), (.int (a >>> ((1 : Int32) &&& 31))), (.int (202 : Int32))])
      refine own_st (fun t_ k_ => Jvm.RoadKit.iremM (g := (mkF m 85 #[.val (.int a), .val (.int b), .val (.ref nb1), .unset, .unset, .unset] [(.int (3 : Int32)), (.int (a >>> ((1 : Int32) &&& 31))), (.int (202 : Int32))])) X10 hx rfl (hb hby at_85) rfl (by decide) k_) ?_
      show own_Go p e below _ T10 (mkF m 86 #[.val (.int a), .val (.int b), .val (.ref nb1), .unset, .unset, .unset] [(.int ((a >>> ((1 : Int32) &&& 31)) % (3 : Int32))), (.int (202 : Int32))])
      refine own_st (fun t_ k_ => XS.iadd X10.here hx rfl (hb hby at_86) rfl k_) ?_
      show own_Go p e below _ T10 (mkF m 87 #[.val (.int a), .val (.int b), .val (.ref nb1), .unset, .unset, .unset] [(.int ((202 : Int32) + ((a >>> ((1 : Int32) &&& 31)) % (3 : Int32))))])
      refine own_st (fun t_ k_ => XS.istoreN X10.here hx rfl (hb hby at_87) rfl (l' := #[.val (.int a), .val (.int b), .val (.ref nb1), .val (.int ((202 : Int32) + ((a >>> ((1 : Int32) &&& 31)) % (3 : Int32)))), .unset, .unset]) rfl k_) ?_
      show own_Go p e below _ T10 (mkF m 88 #[.val (.int a), .val (.int b), .val (.ref nb1), .val (.int ((202 : Int32) + ((a >>> ((1 : Int32) &&& 31)) % (3 : Int32)))), .unset, .unset] [])
      refine own_st (fun t_ k_ => XS.iloadN X10.here hx rfl (hb hby at_88) rfl k_) ?_
      show own_Go p e below _ T10 (mkF m 89 #[.val (.int a), .val (.int b), .val (.ref nb1), .val (.int ((202 : Int32) + ((a >>> ((1 : Int32) &&& 31)) % (3 : Int32)))), .unset, .unset] [(.int ((202 : Int32) + ((a >>> ((1 : Int32) &&& 31)) % (3 : Int32))))])
      have f143 := (Sta.ext E1 SD)
      have f144 := (Sta.wr W2 f143)
      have f145 := (Sta.wr W3 f144)
      have f146 := (Sta.wr W4 f145)
      have f147 := (Sta.wr W5 f146)
      have f148 := (Sta.wr W6 f147)
      have f149 := (Sta.wr W7 f148)
      have f150 := (Sta.wr W8 f149)
      have f151 := (Sta.wr W9 f150)
      have f152 := (Sta.wr W10 f151)
      have f153 := (Sta.ext E1 SR)
      have f154 := (Sta.wr W2 f153)
      have f155 := (Sta.wr W3 f154)
      have f156 := (Sta.wr W4 f155)
      have f157 := (Sta.wr W5 f156)
      have f158 := (Sta.wr W6 f157)
      have f159 := (Sta.wr W7 f158)
      have f160 := (Sta.wr W8 f159)
      have f161 := (Sta.wr W9 f160)
      have f162 := (Sta.wr W10 f161)
      have f163 := (Sta.ext E1 SX)
      have f164 := (Sta.wr W2 f163)
      have f165 := (Sta.wr W3 f164)
      have f166 := (Sta.wr W4 f165)
      have f167 := (Sta.wr W5 f166)
      have f168 := (Sta.wr W6 f167)
      have f169 := (Sta.wr W7 f168)
      have f170 := (Sta.wr W8 f169)
      have f171 := (Sta.wr W9 f170)
      have f172 := (Sta.wr W10 f171)
      refine own_callS X10 hx (y := (⟨"com/example/gentle_nudge/gentlenudge/protocol/OutcomeOfStatusPinLaw", "expectedOf", "(I)Lcom/example/gentle_nudge/gentlenudge/protocol/Outcome;"⟩ : MethodName)) hown (mvT hZ (hw _ (List.mem_of_getElem? (i := 1) rfl))) (mvT hZ (hw _ (List.mem_of_getElem? (i := 2) rfl))) (mvT hZ (hw _ (List.mem_of_getElem? (i := 3) rfl))) (mvT hZ (hw _ (List.mem_of_getElem? (i := 4) rfl))) (by decide) (backOf (W := 0) (rmE l Z a0 hw [] ((202 : Int32) + ((a >>> ((1 : Int32) &&& 31)) % (3 : Int32))) wD wR wX h10 n0 (Nat.le_trans Z0 K10.1) f152 f162 f172) hZ (hw _ (List.mem_of_getElem? (i := 4) rfl)) (hw _ (List.mem_of_getElem? (i := 3) rfl)) (by decide) (by decide)) (g := (mkF m 89 #[.val (.int a), .val (.int b), .val (.ref nb1), .val (.int ((202 : Int32) + ((a >>> ((1 : Int32) &&& 31)) % (3 : Int32)))), .unset, .unset] [(.int ((202 : Int32) + ((a >>> ((1 : Int32) &&& 31)) % (3 : Int32))))])) rfl (by rw [hml]; rfl) (argsL := [(.int ((202 : Int32) + ((a >>> ((1 : Int32) &&& 31)) % (3 : Int32))))]) (rest := []) (lenOf pd_0 rfl) rfl (by show 2 * 0 + _ ≤ _; exact Nat.le_of_eq rfl) (hb hby at_89) rfl e10 (by decide) (by decide) ?_
      rintro v173 T173 L173 X173 ⟨rfl, Nq173, hh173⟩
      have N173 := Fr.app N10 Nq173
      show own_Go p e below _ T173 (mkF m 92 #[.val (.int a), .val (.int b), .val (.ref nb1), .val (.int ((202 : Int32) + ((a >>> ((1 : Int32) &&& 31)) % (3 : Int32)))), .unset, .unset] [(.ref (own_ex ((202 : Int32) + ((a >>> ((1 : Int32) &&& 31)) % (3 : Int32))) wD wR wX))])
      refine own_st (fun t_ k_ => XS.astore X173.here hx rfl (hb hby at_92) rfl rfl (l' := #[.val (.int a), .val (.int b), .val (.ref nb1), .val (.int ((202 : Int32) + ((a >>> ((1 : Int32) &&& 31)) % (3 : Int32)))), .val (.ref (own_ex ((202 : Int32) + ((a >>> ((1 : Int32) &&& 31)) % (3 : Int32))) wD wR wX)), .unset]) rfl k_) ?_
      show own_Go p e below _ T173 (mkF m 94 #[.val (.int a), .val (.int b), .val (.ref nb1), .val (.int ((202 : Int32) + ((a >>> ((1 : Int32) &&& 31)) % (3 : Int32)))), .val (.ref (own_ex ((202 : Int32) + ((a >>> ((1 : Int32) &&& 31)) % (3 : Int32))) wD wR wX)), .unset] [])
      refine own_st (fun t_ k_ => XS.iloadN X173.here hx rfl (hb hby at_94) rfl k_) ?_
      show own_Go p e below _ T173 (mkF m 95 #[.val (.int a), .val (.int b), .val (.ref nb1), .val (.int ((202 : Int32) + ((a >>> ((1 : Int32) &&& 31)) % (3 : Int32)))), .val (.ref (own_ex ((202 : Int32) + ((a >>> ((1 : Int32) &&& 31)) % (3 : Int32))) wD wR wX)), .unset] [(.int ((202 : Int32) + ((a >>> ((1 : Int32) &&& 31)) % (3 : Int32))))])
      refine own_callS X173 hx (y := (⟨"com/example/gentle_nudge/gentlenudge/protocol/Outcome", "ofStatus", "(I)Lcom/example/gentle_nudge/gentlenudge/protocol/Outcome;"⟩ : MethodName)) hown (mvT hZ (hw _ (List.mem_of_getElem? (i := 8) rfl))) (mvT hZ (hw _ (List.mem_of_getElem? (i := 9) rfl))) (mvT hZ (hw _ (List.mem_of_getElem? (i := 6) rfl))) (mvT hZ (hw _ (List.mem_of_getElem? (i := 10) rfl))) (by decide) (backOf (W := 0) (rmO l Z a0 hw [] ((202 : Int32) + ((a >>> ((1 : Int32) &&& 31)) % (3 : Int32))) wD wR wX h10 n0 (Nat.le_trans Z0 K10.1) f152 f162 f172) hZ (hw _ (List.mem_of_getElem? (i := 10) rfl)) (hw _ (List.mem_of_getElem? (i := 6) rfl)) (by decide) (by decide)) (g := (mkF m 95 #[.val (.int a), .val (.int b), .val (.ref nb1), .val (.int ((202 : Int32) + ((a >>> ((1 : Int32) &&& 31)) % (3 : Int32)))), .val (.ref (own_ex ((202 : Int32) + ((a >>> ((1 : Int32) &&& 31)) % (3 : Int32))) wD wR wX)), .unset] [(.int ((202 : Int32) + ((a >>> ((1 : Int32) &&& 31)) % (3 : Int32))))])) rfl (by rw [hml]; rfl) (argsL := [(.int ((202 : Int32) + ((a >>> ((1 : Int32) &&& 31)) % (3 : Int32))))]) (rest := []) (lenOf pd_0 rfl) rfl (by show 2 * 0 + _ ≤ _; exact Nat.le_of_eq rfl) (hb hby at_95) rfl hh173 (by decide) (by decide) ?_
      rintro v174 T174 L174 X174 ⟨rfl, Nq174, hh174⟩
      have N174 := Fr.app N173 Nq174
      show own_Go p e below _ T174 (mkF m 98 #[.val (.int a), .val (.int b), .val (.ref nb1), .val (.int ((202 : Int32) + ((a >>> ((1 : Int32) &&& 31)) % (3 : Int32)))), .val (.ref (own_ex ((202 : Int32) + ((a >>> ((1 : Int32) &&& 31)) % (3 : Int32))) wD wR wX)), .unset] [(.ref (own_ex ((202 : Int32) + ((a >>> ((1 : Int32) &&& 31)) % (3 : Int32))) wD wR wX))])
      refine own_st (fun t_ k_ => XS.astore X174.here hx rfl (hb hby at_98) rfl rfl (l' := #[.val (.int a), .val (.int b), .val (.ref nb1), .val (.int ((202 : Int32) + ((a >>> ((1 : Int32) &&& 31)) % (3 : Int32)))), .val (.ref (own_ex ((202 : Int32) + ((a >>> ((1 : Int32) &&& 31)) % (3 : Int32))) wD wR wX)), .val (.ref (own_ex ((202 : Int32) + ((a >>> ((1 : Int32) &&& 31)) % (3 : Int32))) wD wR wX))]) rfl k_) ?_
      show own_Go p e below _ T174 (mkF m 100 #[.val (.int a), .val (.int b), .val (.ref nb1), .val (.int ((202 : Int32) + ((a >>> ((1 : Int32) &&& 31)) % (3 : Int32)))), .val (.ref (own_ex ((202 : Int32) + ((a >>> ((1 : Int32) &&& 31)) % (3 : Int32))) wD wR wX)), .val (.ref (own_ex ((202 : Int32) + ((a >>> ((1 : Int32) &&& 31)) % (3 : Int32))) wD wR wX))] [])
      refine own_st (fun t_ k_ => XS.aload X174.here hx rfl (hb hby at_100) rfl rfl k_) ?_
      show own_Go p e below _ T174 (mkF m 102 #[.val (.int a), .val (.int b), .val (.ref nb1), .val (.int ((202 : Int32) + ((a >>> ((1 : Int32) &&& 31)) % (3 : Int32)))), .val (.ref (own_ex ((202 : Int32) + ((a >>> ((1 : Int32) &&& 31)) % (3 : Int32))) wD wR wX)), .val (.ref (own_ex ((202 : Int32) + ((a >>> ((1 : Int32) &&& 31)) % (3 : Int32))) wD wR wX))] [(.ref (own_ex ((202 : Int32) + ((a >>> ((1 : Int32) &&& 31)) % (3 : Int32))) wD wR wX))])
      refine own_st (fun t_ k_ => XS.aload X174.here hx rfl (hb hby at_102) rfl rfl k_) ?_
      show own_Go p e below _ T174 (mkF m 104 #[.val (.int a), .val (.int b), .val (.ref nb1), .val (.int ((202 : Int32) + ((a >>> ((1 : Int32) &&& 31)) % (3 : Int32)))), .val (.ref (own_ex ((202 : Int32) + ((a >>> ((1 : Int32) &&& 31)) % (3 : Int32))) wD wR wX)), .val (.ref (own_ex ((202 : Int32) + ((a >>> ((1 : Int32) &&& 31)) % (3 : Int32))) wD wR wX))] [(.ref (own_ex ((202 : Int32) + ((a >>> ((1 : Int32) &&& 31)) % (3 : Int32))) wD wR wX)), (.ref (own_ex ((202 : Int32) + ((a >>> ((1 : Int32) &&& 31)) % (3 : Int32))) wD wR wX))])
      refine own_st (fun t_ k_ => Jvm.RoadKit.acmp (g := (mkF m 104 #[.val (.int a), .val (.int b), .val (.ref nb1), .val (.int ((202 : Int32) + ((a >>> ((1 : Int32) &&& 31)) % (3 : Int32)))), .val (.ref (own_ex ((202 : Int32) + ((a >>> ((1 : Int32) &&& 31)) % (3 : Int32))) wD wR wX)), .val (.ref (own_ex ((202 : Int32) + ((a >>> ((1 : Int32) &&& 31)) % (3 : Int32))) wD wR wX))] [(.ref (own_ex ((202 : Int32) + ((a >>> ((1 : Int32) &&& 31)) % (3 : Int32))) wD wR wX)), (.ref (own_ex ((202 : Int32) + ((a >>> ((1 : Int32) &&& 31)) % (3 : Int32))) wD wR wX))])) X174 hx rfl rfl rfl (pc0 := 104) (pc' := 107) (same := true) rfl (hb hby at_104) rfl (decide_eq_true rfl) (by decide) (by decide) k_) ?_
      show own_Go p e below _ T174 (mkF m 107 #[.val (.int a), .val (.int b), .val (.ref nb1), .val (.int ((202 : Int32) + ((a >>> ((1 : Int32) &&& 31)) % (3 : Int32)))), .val (.ref (own_ex ((202 : Int32) + ((a >>> ((1 : Int32) &&& 31)) % (3 : Int32))) wD wR wX)), .val (.ref (own_ex ((202 : Int32) + ((a >>> ((1 : Int32) &&& 31)) % (3 : Int32))) wD wR wX))] [])
      refine own_st (fun t_ k_ => XS.iconst X174.here hx rfl (hb hby at_107) k_) ?_
      show own_Go p e below _ T174 (mkF m 108 #[.val (.int a), .val (.int b), .val (.ref nb1), .val (.int ((202 : Int32) + ((a >>> ((1 : Int32) &&& 31)) % (3 : Int32)))), .val (.ref (own_ex ((202 : Int32) + ((a >>> ((1 : Int32) &&& 31)) % (3 : Int32))) wD wR wX)), .val (.ref (own_ex ((202 : Int32) + ((a >>> ((1 : Int32) &&& 31)) % (3 : Int32))) wD wR wX))] [(.int (1 : Int32))])
      refine own_st (fun t_ k_ => XS.goto X174.here hx rfl (pc0 := 108) (pc' := 112) rfl (hb hby at_108) (by decide) (by decide) k_) ?_
      show own_Go p e below _ T174 (mkF m 112 #[.val (.int a), .val (.int b), .val (.ref nb1), .val (.int ((202 : Int32) + ((a >>> ((1 : Int32) &&& 31)) % (3 : Int32)))), .val (.ref (own_ex ((202 : Int32) + ((a >>> ((1 : Int32) &&& 31)) % (3 : Int32))) wD wR wX)), .val (.ref (own_ex ((202 : Int32) + ((a >>> ((1 : Int32) &&& 31)) % (3 : Int32))) wD wR wX))] [(.int (1 : Int32))])
      refine own_retN X174 hx hlk (t := .boolean) Bd.returns (by simp) (hb hby at_112) ?_ (by decide) (by decide)
      show Q0 n0 _ T174.heap _
      rw [hh174]
      exact ⟨rfl, N174⟩
    · show own_Go p e below _ T10 (mkF m 80 #[.val (.int a), .val (.int b), .val (.ref nb1), .unset, .unset, .unset] [(.int (4 : Int32)), (.ref nb1)])
      obtain ⟨cl175, Ar175, q175, S175, N175', H175, G175⟩ := V10
      have hin175 : ¬ ((4 : Int32) < 0 ∨ cl175.slots.size ≤ ((4 : Int32)).toNatClampNeg) := inb_of S175 ⟨by decide, by decide⟩
      refine own_st (fun t_ k_ => X10.iaload hx (j := (4 : Int32)) (v := (.int (204 : Int32))) (by rw [e10]; exact Ar175.1) (State.isArrayOf_alike hZ.alike Ar175.2.1) Ar175.2.2 hin175 (Has.at H175 hin175 rfl) (g := (mkF m 80 #[.val (.int a), .val (.int b), .val (.ref nb1), .unset, .unset, .unset] [(.int (4 : Int32)), (.ref nb1)])) rfl rfl (hb hby at_80) t_ k_) ?_
      show own_Go p e below _ T10 (mkF m 81 #[.val (.int a), .val (.int b), .val (.ref nb1), .unset, .unset, .unset] [(.int (204 : Int32))])
      refine own_st (fun t_ k_ => XS.iloadN X10.here hx rfl (hb hby at_81) rfl k_) ?_
      show own_Go p e below _ T10 (mkF m 82 #[.val (.int a), .val (.int b), .val (.ref nb1), .unset, .unset, .unset] [(.int a), (.int (204 : Int32))])
      refine own_st (fun t_ k_ => XS.iconst X10.here hx rfl (hb hby at_82) k_) ?_
      show own_Go p e below _ T10 (mkF m 83 #[.val (.int a), .val (.int b), .val (.ref nb1), .unset, .unset, .unset] [(.int (1 : Int32)), (.int a), (.int (204 : Int32))])
      refine own_st (fun t_ k_ => XS.ishr X10.here hx rfl (hb hby at_83) rfl k_) ?_
      show own_Go p e below _ T10 (mkF m 84 #[.val (.int a), .val (.int b), .val (.ref nb1), .unset, .unset, .unset] [(.int (a >>> ((1 : Int32) &&& 31))), (.int (204 : Int32))])
      refine own_st (fun t_ k_ => XS.iconst X10.here hx rfl (hb hby at_84) k_) ?_
      show own_Go p e below _ T10 (mkF m 85 #[.val (.int a), .val (.int b), .val (.ref nb1), .unset, .unset, .unset] [(.int (3 : Int32)), (.int (a >>> ((1 : Int32) &&& 31))), (.int (204 : Int32))])
      refine own_st (fun t_ k_ => Jvm.RoadKit.iremM (g := (mkF m 85 #[.val (.int a), .val (.int b), .val (.ref nb1), .unset, .unset, .unset] [(.int (3 : Int32)), (.int (a >>> ((1 : Int32) &&& 31))), (.int (204 : Int32))])) X10 hx rfl (hb hby at_85) rfl (by decide) k_) ?_
      show own_Go p e below _ T10 (mkF m 86 #[.val (.int a), .val (.int b), .val (.ref nb1), .unset, .unset, .unset] [(.int ((a >>> ((1 : Int32) &&& 31)) % (3 : Int32))), (.int (204 : Int32))])
      refine own_st (fun t_ k_ => XS.iadd X10.here hx rfl (hb hby at_86) rfl k_) ?_
      show own_Go p e below _ T10 (mkF m 87 #[.val (.int a), .val (.int b), .val (.ref nb1), .unset, .unset, .unset] [(.int ((204 : Int32) + ((a >>> ((1 : Int32) &&& 31)) % (3 : Int32))))])
      refine own_st (fun t_ k_ => XS.istoreN X10.here hx rfl (hb hby at_87) rfl (l' := #[.val (.int a), .val (.int b), .val (.ref nb1), .val (.int ((204 : Int32) + ((a >>> ((1 : Int32) &&& 31)) % (3 : Int32)))), .unset, .unset]) rfl k_) ?_
      show own_Go p e below _ T10 (mkF m 88 #[.val (.int a), .val (.int b), .val (.ref nb1), .val (.int ((204 : Int32) + ((a >>> ((1 : Int32) &&& 31)) % (3 : Int32)))), .unset, .unset] [])
      refine own_st (fun t_ k_ => XS.iloadN X10.here hx rfl (hb hby at_88) rfl k_) ?_
      show own_Go p e below _ T10 (mkF m 89 #[.val (.int a), .val (.int b), .val (.ref nb1), .val (.int ((204 : Int32) + ((a >>> ((1 : Int32) &&& 31)) % (3 : Int32)))), .unset, .unset] [(.int ((204 : Int32) + ((a >>> ((1 : Int32) &&& 31)) % (3 : Int32))))])
      have f176 := (Sta.ext E1 SD)
      have f177 := (Sta.wr W2 f176)
      have f178 := (Sta.wr W3 f177)
      have f179 := (Sta.wr W4 f178)
      have f180 := (Sta.wr W5 f179)
      have f181 := (Sta.wr W6 f180)
      have f182 := (Sta.wr W7 f181)
      have f183 := (Sta.wr W8 f182)
      have f184 := (Sta.wr W9 f183)
      have f185 := (Sta.wr W10 f184)
      have f186 := (Sta.ext E1 SR)
      have f187 := (Sta.wr W2 f186)
      have f188 := (Sta.wr W3 f187)
      have f189 := (Sta.wr W4 f188)
      have f190 := (Sta.wr W5 f189)
      have f191 := (Sta.wr W6 f190)
      have f192 := (Sta.wr W7 f191)
      have f193 := (Sta.wr W8 f192)
      have f194 := (Sta.wr W9 f193)
      have f195 := (Sta.wr W10 f194)
      have f196 := (Sta.ext E1 SX)
      have f197 := (Sta.wr W2 f196)
      have f198 := (Sta.wr W3 f197)
      have f199 := (Sta.wr W4 f198)
      have f200 := (Sta.wr W5 f199)
      have f201 := (Sta.wr W6 f200)
      have f202 := (Sta.wr W7 f201)
      have f203 := (Sta.wr W8 f202)
      have f204 := (Sta.wr W9 f203)
      have f205 := (Sta.wr W10 f204)
      refine own_callS X10 hx (y := (⟨"com/example/gentle_nudge/gentlenudge/protocol/OutcomeOfStatusPinLaw", "expectedOf", "(I)Lcom/example/gentle_nudge/gentlenudge/protocol/Outcome;"⟩ : MethodName)) hown (mvT hZ (hw _ (List.mem_of_getElem? (i := 1) rfl))) (mvT hZ (hw _ (List.mem_of_getElem? (i := 2) rfl))) (mvT hZ (hw _ (List.mem_of_getElem? (i := 3) rfl))) (mvT hZ (hw _ (List.mem_of_getElem? (i := 4) rfl))) (by decide) (backOf (W := 0) (rmE l Z a0 hw [] ((204 : Int32) + ((a >>> ((1 : Int32) &&& 31)) % (3 : Int32))) wD wR wX h10 n0 (Nat.le_trans Z0 K10.1) f185 f195 f205) hZ (hw _ (List.mem_of_getElem? (i := 4) rfl)) (hw _ (List.mem_of_getElem? (i := 3) rfl)) (by decide) (by decide)) (g := (mkF m 89 #[.val (.int a), .val (.int b), .val (.ref nb1), .val (.int ((204 : Int32) + ((a >>> ((1 : Int32) &&& 31)) % (3 : Int32)))), .unset, .unset] [(.int ((204 : Int32) + ((a >>> ((1 : Int32) &&& 31)) % (3 : Int32))))])) rfl (by rw [hml]; rfl) (argsL := [(.int ((204 : Int32) + ((a >>> ((1 : Int32) &&& 31)) % (3 : Int32))))]) (rest := []) (lenOf pd_0 rfl) rfl (by show 2 * 0 + _ ≤ _; exact Nat.le_of_eq rfl) (hb hby at_89) rfl e10 (by decide) (by decide) ?_
      rintro v206 T206 L206 X206 ⟨rfl, Nq206, hh206⟩
      have N206 := Fr.app N10 Nq206
      show own_Go p e below _ T206 (mkF m 92 #[.val (.int a), .val (.int b), .val (.ref nb1), .val (.int ((204 : Int32) + ((a >>> ((1 : Int32) &&& 31)) % (3 : Int32)))), .unset, .unset] [(.ref (own_ex ((204 : Int32) + ((a >>> ((1 : Int32) &&& 31)) % (3 : Int32))) wD wR wX))])
      refine own_st (fun t_ k_ => XS.astore X206.here hx rfl (hb hby at_92) rfl rfl (l' := #[.val (.int a), .val (.int b), .val (.ref nb1), .val (.int ((204 : Int32) + ((a >>> ((1 : Int32) &&& 31)) % (3 : Int32)))), .val (.ref (own_ex ((204 : Int32) + ((a >>> ((1 : Int32) &&& 31)) % (3 : Int32))) wD wR wX)), .unset]) rfl k_) ?_
      show own_Go p e below _ T206 (mkF m 94 #[.val (.int a), .val (.int b), .val (.ref nb1), .val (.int ((204 : Int32) + ((a >>> ((1 : Int32) &&& 31)) % (3 : Int32)))), .val (.ref (own_ex ((204 : Int32) + ((a >>> ((1 : Int32) &&& 31)) % (3 : Int32))) wD wR wX)), .unset] [])
      refine own_st (fun t_ k_ => XS.iloadN X206.here hx rfl (hb hby at_94) rfl k_) ?_
      show own_Go p e below _ T206 (mkF m 95 #[.val (.int a), .val (.int b), .val (.ref nb1), .val (.int ((204 : Int32) + ((a >>> ((1 : Int32) &&& 31)) % (3 : Int32)))), .val (.ref (own_ex ((204 : Int32) + ((a >>> ((1 : Int32) &&& 31)) % (3 : Int32))) wD wR wX)), .unset] [(.int ((204 : Int32) + ((a >>> ((1 : Int32) &&& 31)) % (3 : Int32))))])
      refine own_callS X206 hx (y := (⟨"com/example/gentle_nudge/gentlenudge/protocol/Outcome", "ofStatus", "(I)Lcom/example/gentle_nudge/gentlenudge/protocol/Outcome;"⟩ : MethodName)) hown (mvT hZ (hw _ (List.mem_of_getElem? (i := 8) rfl))) (mvT hZ (hw _ (List.mem_of_getElem? (i := 9) rfl))) (mvT hZ (hw _ (List.mem_of_getElem? (i := 6) rfl))) (mvT hZ (hw _ (List.mem_of_getElem? (i := 10) rfl))) (by decide) (backOf (W := 0) (rmO l Z a0 hw [] ((204 : Int32) + ((a >>> ((1 : Int32) &&& 31)) % (3 : Int32))) wD wR wX h10 n0 (Nat.le_trans Z0 K10.1) f185 f195 f205) hZ (hw _ (List.mem_of_getElem? (i := 10) rfl)) (hw _ (List.mem_of_getElem? (i := 6) rfl)) (by decide) (by decide)) (g := (mkF m 95 #[.val (.int a), .val (.int b), .val (.ref nb1), .val (.int ((204 : Int32) + ((a >>> ((1 : Int32) &&& 31)) % (3 : Int32)))), .val (.ref (own_ex ((204 : Int32) + ((a >>> ((1 : Int32) &&& 31)) % (3 : Int32))) wD wR wX)), .unset] [(.int ((204 : Int32) + ((a >>> ((1 : Int32) &&& 31)) % (3 : Int32))))])) rfl (by rw [hml]; rfl) (argsL := [(.int ((204 : Int32) + ((a >>> ((1 : Int32) &&& 31)) % (3 : Int32))))]) (rest := []) (lenOf pd_0 rfl) rfl (by show 2 * 0 + _ ≤ _; exact Nat.le_of_eq rfl) (hb hby at_95) rfl hh206 (by decide) (by decide) ?_
      rintro v207 T207 L207 X207 ⟨rfl, Nq207, hh207⟩
      have N207 := Fr.app N206 Nq207
      show own_Go p e below _ T207 (mkF m 98 #[.val (.int a), .val (.int b), .val (.ref nb1), .val (.int ((204 : Int32) + ((a >>> ((1 : Int32) &&& 31)) % (3 : Int32)))), .val (.ref (own_ex ((204 : Int32) + ((a >>> ((1 : Int32) &&& 31)) % (3 : Int32))) wD wR wX)), .unset] [(.ref (own_ex ((204 : Int32) + ((a >>> ((1 : Int32) &&& 31)) % (3 : Int32))) wD wR wX))])
      refine own_st (fun t_ k_ => XS.astore X207.here hx rfl (hb hby at_98) rfl rfl (l' := #[.val (.int a), .val (.int b), .val (.ref nb1), .val (.int ((204 : Int32) + ((a >>> ((1 : Int32) &&& 31)) % (3 : Int32)))), .val (.ref (own_ex ((204 : Int32) + ((a >>> ((1 : Int32) &&& 31)) % (3 : Int32))) wD wR wX)), .val (.ref (own_ex ((204 : Int32) + ((a >>> ((1 : Int32) &&& 31)) % (3 : Int32))) wD wR wX))]) rfl k_) ?_
      show own_Go p e below _ T207 (mkF m 100 #[.val (.int a), .val (.int b), .val (.ref nb1), .val (.int ((204 : Int32) + ((a >>> ((1 : Int32) &&& 31)) % (3 : Int32)))), .val (.ref (own_ex ((204 : Int32) + ((a >>> ((1 : Int32) &&& 31)) % (3 : Int32))) wD wR wX)), .val (.ref (own_ex ((204 : Int32) + ((a >>> ((1 : Int32) &&& 31)) % (3 : Int32))) wD wR wX))] [])
      refine own_st (fun t_ k_ => XS.aload X207.here hx rfl (hb hby at_100) rfl rfl k_) ?_
      show own_Go p e below _ T207 (mkF m 102 #[.val (.int a), .val (.int b), .val (.ref nb1), .val (.int ((204 : Int32) + ((a >>> ((1 : Int32) &&& 31)) % (3 : Int32)))), .val (.ref (own_ex ((204 : Int32) + ((a >>> ((1 : Int32) &&& 31)) % (3 : Int32))) wD wR wX)), .val (.ref (own_ex ((204 : Int32) + ((a >>> ((1 : Int32) &&& 31)) % (3 : Int32))) wD wR wX))] [(.ref (own_ex ((204 : Int32) + ((a >>> ((1 : Int32) &&& 31)) % (3 : Int32))) wD wR wX))])
      refine own_st (fun t_ k_ => XS.aload X207.here hx rfl (hb hby at_102) rfl rfl k_) ?_
      show own_Go p e below _ T207 (mkF m 104 #[.val (.int a), .val (.int b), .val (.ref nb1), .val (.int ((204 : Int32) + ((a >>> ((1 : Int32) &&& 31)) % (3 : Int32)))), .val (.ref (own_ex ((204 : Int32) + ((a >>> ((1 : Int32) &&& 31)) % (3 : Int32))) wD wR wX)), .val (.ref (own_ex ((204 : Int32) + ((a >>> ((1 : Int32) &&& 31)) % (3 : Int32))) wD wR wX))] [(.ref (own_ex ((204 : Int32) + ((a >>> ((1 : Int32) &&& 31)) % (3 : Int32))) wD wR wX)), (.ref (own_ex ((204 : Int32) + ((a >>> ((1 : Int32) &&& 31)) % (3 : Int32))) wD wR wX))])
      refine own_st (fun t_ k_ => Jvm.RoadKit.acmp (g := (mkF m 104 #[.val (.int a), .val (.int b), .val (.ref nb1), .val (.int ((204 : Int32) + ((a >>> ((1 : Int32) &&& 31)) % (3 : Int32)))), .val (.ref (own_ex ((204 : Int32) + ((a >>> ((1 : Int32) &&& 31)) % (3 : Int32))) wD wR wX)), .val (.ref (own_ex ((204 : Int32) + ((a >>> ((1 : Int32) &&& 31)) % (3 : Int32))) wD wR wX))] [(.ref (own_ex ((204 : Int32) + ((a >>> ((1 : Int32) &&& 31)) % (3 : Int32))) wD wR wX)), (.ref (own_ex ((204 : Int32) + ((a >>> ((1 : Int32) &&& 31)) % (3 : Int32))) wD wR wX))])) X207 hx rfl rfl rfl (pc0 := 104) (pc' := 107) (same := true) rfl (hb hby at_104) rfl (decide_eq_true rfl) (by decide) (by decide) k_) ?_
      show own_Go p e below _ T207 (mkF m 107 #[.val (.int a), .val (.int b), .val (.ref nb1), .val (.int ((204 : Int32) + ((a >>> ((1 : Int32) &&& 31)) % (3 : Int32)))), .val (.ref (own_ex ((204 : Int32) + ((a >>> ((1 : Int32) &&& 31)) % (3 : Int32))) wD wR wX)), .val (.ref (own_ex ((204 : Int32) + ((a >>> ((1 : Int32) &&& 31)) % (3 : Int32))) wD wR wX))] [])
      refine own_st (fun t_ k_ => XS.iconst X207.here hx rfl (hb hby at_107) k_) ?_
      show own_Go p e below _ T207 (mkF m 108 #[.val (.int a), .val (.int b), .val (.ref nb1), .val (.int ((204 : Int32) + ((a >>> ((1 : Int32) &&& 31)) % (3 : Int32)))), .val (.ref (own_ex ((204 : Int32) + ((a >>> ((1 : Int32) &&& 31)) % (3 : Int32))) wD wR wX)), .val (.ref (own_ex ((204 : Int32) + ((a >>> ((1 : Int32) &&& 31)) % (3 : Int32))) wD wR wX))] [(.int (1 : Int32))])
      refine own_st (fun t_ k_ => XS.goto X207.here hx rfl (pc0 := 108) (pc' := 112) rfl (hb hby at_108) (by decide) (by decide) k_) ?_
      show own_Go p e below _ T207 (mkF m 112 #[.val (.int a), .val (.int b), .val (.ref nb1), .val (.int ((204 : Int32) + ((a >>> ((1 : Int32) &&& 31)) % (3 : Int32)))), .val (.ref (own_ex ((204 : Int32) + ((a >>> ((1 : Int32) &&& 31)) % (3 : Int32))) wD wR wX)), .val (.ref (own_ex ((204 : Int32) + ((a >>> ((1 : Int32) &&& 31)) % (3 : Int32))) wD wR wX))] [(.int (1 : Int32))])
      refine own_retN X207 hx hlk (t := .boolean) Bd.returns (by simp) (hb hby at_112) ?_ (by decide) (by decide)
      show Q0 n0 _ T207.heap _
      rw [hh207]
      exact ⟨rfl, N207⟩
    · show own_Go p e below _ T10 (mkF m 80 #[.val (.int a), .val (.int b), .val (.ref nb1), .unset, .unset, .unset] [(.int (5 : Int32)), (.ref nb1)])
      obtain ⟨cl208, Ar208, q208, S208, N208', H208, G208⟩ := V10
      have hin208 : ¬ ((5 : Int32) < 0 ∨ cl208.slots.size ≤ ((5 : Int32)).toNatClampNeg) := inb_of S208 ⟨by decide, by decide⟩
      refine own_st (fun t_ k_ => X10.iaload hx (j := (5 : Int32)) (v := (.int (500 : Int32))) (by rw [e10]; exact Ar208.1) (State.isArrayOf_alike hZ.alike Ar208.2.1) Ar208.2.2 hin208 (Has.at H208 hin208 rfl) (g := (mkF m 80 #[.val (.int a), .val (.int b), .val (.ref nb1), .unset, .unset, .unset] [(.int (5 : Int32)), (.ref nb1)])) rfl rfl (hb hby at_80) t_ k_) ?_
      show own_Go p e below _ T10 (mkF m 81 #[.val (.int a), .val (.int b), .val (.ref nb1), .unset, .unset, .unset] [(.int (500 : Int32))])
      refine own_st (fun t_ k_ => XS.iloadN X10.here hx rfl (hb hby at_81) rfl k_) ?_
      show own_Go p e below _ T10 (mkF m 82 #[.val (.int a), .val (.int b), .val (.ref nb1), .unset, .unset, .unset] [(.int a), (.int (500 : Int32))])
      refine own_st (fun t_ k_ => XS.iconst X10.here hx rfl (hb hby at_82) k_) ?_
      show own_Go p e below _ T10 (mkF m 83 #[.val (.int a), .val (.int b), .val (.ref nb1), .unset, .unset, .unset] [(.int (1 : Int32)), (.int a), (.int (500 : Int32))])
      refine own_st (fun t_ k_ => XS.ishr X10.here hx rfl (hb hby at_83) rfl k_) ?_
      show own_Go p e below _ T10 (mkF m 84 #[.val (.int a), .val (.int b), .val (.ref nb1), .unset, .unset, .unset] [(.int (a >>> ((1 : Int32) &&& 31))), (.int (500 : Int32))])
      refine own_st (fun t_ k_ => XS.iconst X10.here hx rfl (hb hby at_84) k_) ?_
      show own_Go p e below _ T10 (mkF m 85 #[.val (.int a), .val (.int b), .val (.ref nb1), .unset, .unset, .unset] [(.int (3 : Int32)), (.int (a >>> ((1 : Int32) &&& 31))), (.int (500 : Int32))])
      refine own_st (fun t_ k_ => Jvm.RoadKit.iremM (g := (mkF m 85 #[.val (.int a), .val (.int b), .val (.ref nb1), .unset, .unset, .unset] [(.int (3 : Int32)), (.int (a >>> ((1 : Int32) &&& 31))), (.int (500 : Int32))])) X10 hx rfl (hb hby at_85) rfl (by decide) k_) ?_
      show own_Go p e below _ T10 (mkF m 86 #[.val (.int a), .val (.int b), .val (.ref nb1), .unset, .unset, .unset] [(.int ((a >>> ((1 : Int32) &&& 31)) % (3 : Int32))), (.int (500 : Int32))])
      refine own_st (fun t_ k_ => XS.iadd X10.here hx rfl (hb hby at_86) rfl k_) ?_
      show own_Go p e below _ T10 (mkF m 87 #[.val (.int a), .val (.int b), .val (.ref nb1), .unset, .unset, .unset] [(.int ((500 : Int32) + ((a >>> ((1 : Int32) &&& 31)) % (3 : Int32))))])
      refine own_st (fun t_ k_ => XS.istoreN X10.here hx rfl (hb hby at_87) rfl (l' := #[.val (.int a), .val (.int b), .val (.ref nb1), .val (.int ((500 : Int32) + ((a >>> ((1 : Int32) &&& 31)) % (3 : Int32)))), .unset, .unset]) rfl k_) ?_
      show own_Go p e below _ T10 (mkF m 88 #[.val (.int a), .val (.int b), .val (.ref nb1), .val (.int ((500 : Int32) + ((a >>> ((1 : Int32) &&& 31)) % (3 : Int32)))), .unset, .unset] [])
      refine own_st (fun t_ k_ => XS.iloadN X10.here hx rfl (hb hby at_88) rfl k_) ?_
      show own_Go p e below _ T10 (mkF m 89 #[.val (.int a), .val (.int b), .val (.ref nb1), .val (.int ((500 : Int32) + ((a >>> ((1 : Int32) &&& 31)) % (3 : Int32)))), .unset, .unset] [(.int ((500 : Int32) + ((a >>> ((1 : Int32) &&& 31)) % (3 : Int32))))])
      have f209 := (Sta.ext E1 SD)
      have f210 := (Sta.wr W2 f209)
      have f211 := (Sta.wr W3 f210)
      have f212 := (Sta.wr W4 f211)
      have f213 := (Sta.wr W5 f212)
      have f214 := (Sta.wr W6 f213)
      have f215 := (Sta.wr W7 f214)
      have f216 := (Sta.wr W8 f215)
      have f217 := (Sta.wr W9 f216)
      have f218 := (Sta.wr W10 f217)
      have f219 := (Sta.ext E1 SR)
      have f220 := (Sta.wr W2 f219)
      have f221 := (Sta.wr W3 f220)
      have f222 := (Sta.wr W4 f221)
      have f223 := (Sta.wr W5 f222)
      have f224 := (Sta.wr W6 f223)
      have f225 := (Sta.wr W7 f224)
      have f226 := (Sta.wr W8 f225)
      have f227 := (Sta.wr W9 f226)
      have f228 := (Sta.wr W10 f227)
      have f229 := (Sta.ext E1 SX)
      have f230 := (Sta.wr W2 f229)
      have f231 := (Sta.wr W3 f230)
      have f232 := (Sta.wr W4 f231)
      have f233 := (Sta.wr W5 f232)
      have f234 := (Sta.wr W6 f233)
      have f235 := (Sta.wr W7 f234)
      have f236 := (Sta.wr W8 f235)
      have f237 := (Sta.wr W9 f236)
      have f238 := (Sta.wr W10 f237)
      refine own_callS X10 hx (y := (⟨"com/example/gentle_nudge/gentlenudge/protocol/OutcomeOfStatusPinLaw", "expectedOf", "(I)Lcom/example/gentle_nudge/gentlenudge/protocol/Outcome;"⟩ : MethodName)) hown (mvT hZ (hw _ (List.mem_of_getElem? (i := 1) rfl))) (mvT hZ (hw _ (List.mem_of_getElem? (i := 2) rfl))) (mvT hZ (hw _ (List.mem_of_getElem? (i := 3) rfl))) (mvT hZ (hw _ (List.mem_of_getElem? (i := 4) rfl))) (by decide) (backOf (W := 0) (rmE l Z a0 hw [] ((500 : Int32) + ((a >>> ((1 : Int32) &&& 31)) % (3 : Int32))) wD wR wX h10 n0 (Nat.le_trans Z0 K10.1) f218 f228 f238) hZ (hw _ (List.mem_of_getElem? (i := 4) rfl)) (hw _ (List.mem_of_getElem? (i := 3) rfl)) (by decide) (by decide)) (g := (mkF m 89 #[.val (.int a), .val (.int b), .val (.ref nb1), .val (.int ((500 : Int32) + ((a >>> ((1 : Int32) &&& 31)) % (3 : Int32)))), .unset, .unset] [(.int ((500 : Int32) + ((a >>> ((1 : Int32) &&& 31)) % (3 : Int32))))])) rfl (by rw [hml]; rfl) (argsL := [(.int ((500 : Int32) + ((a >>> ((1 : Int32) &&& 31)) % (3 : Int32))))]) (rest := []) (lenOf pd_0 rfl) rfl (by show 2 * 0 + _ ≤ _; exact Nat.le_of_eq rfl) (hb hby at_89) rfl e10 (by decide) (by decide) ?_
      rintro v239 T239 L239 X239 ⟨rfl, Nq239, hh239⟩
      have N239 := Fr.app N10 Nq239
      show own_Go p e below _ T239 (mkF m 92 #[.val (.int a), .val (.int b), .val (.ref nb1), .val (.int ((500 : Int32) + ((a >>> ((1 : Int32) &&& 31)) % (3 : Int32)))), .unset, .unset] [(.ref (own_ex ((500 : Int32) + ((a >>> ((1 : Int32) &&& 31)) % (3 : Int32))) wD wR wX))])
      refine own_st (fun t_ k_ => XS.astore X239.here hx rfl (hb hby at_92) rfl rfl (l' := #[.val (.int a), .val (.int b), .val (.ref nb1), .val (.int ((500 : Int32) + ((a >>> ((1 : Int32) &&& 31)) % (3 : Int32)))), .val (.ref (own_ex ((500 : Int32) + ((a >>> ((1 : Int32) &&& 31)) % (3 : Int32))) wD wR wX)), .unset]) rfl k_) ?_
      show own_Go p e below _ T239 (mkF m 94 #[.val (.int a), .val (.int b), .val (.ref nb1), .val (.int ((500 : Int32) + ((a >>> ((1 : Int32) &&& 31)) % (3 : Int32)))), .val (.ref (own_ex ((500 : Int32) + ((a >>> ((1 : Int32) &&& 31)) % (3 : Int32))) wD wR wX)), .unset] [])
      refine own_st (fun t_ k_ => XS.iloadN X239.here hx rfl (hb hby at_94) rfl k_) ?_
      show own_Go p e below _ T239 (mkF m 95 #[.val (.int a), .val (.int b), .val (.ref nb1), .val (.int ((500 : Int32) + ((a >>> ((1 : Int32) &&& 31)) % (3 : Int32)))), .val (.ref (own_ex ((500 : Int32) + ((a >>> ((1 : Int32) &&& 31)) % (3 : Int32))) wD wR wX)), .unset] [(.int ((500 : Int32) + ((a >>> ((1 : Int32) &&& 31)) % (3 : Int32))))])
      refine own_callS X239 hx (y := (⟨"com/example/gentle_nudge/gentlenudge/protocol/Outcome", "ofStatus", "(I)Lcom/example/gentle_nudge/gentlenudge/protocol/Outcome;"⟩ : MethodName)) hown (mvT hZ (hw _ (List.mem_of_getElem? (i := 8) rfl))) (mvT hZ (hw _ (List.mem_of_getElem? (i := 9) rfl))) (mvT hZ (hw _ (List.mem_of_getElem? (i := 6) rfl))) (mvT hZ (hw _ (List.mem_of_getElem? (i := 10) rfl))) (by decide) (backOf (W := 0) (rmO l Z a0 hw [] ((500 : Int32) + ((a >>> ((1 : Int32) &&& 31)) % (3 : Int32))) wD wR wX h10 n0 (Nat.le_trans Z0 K10.1) f218 f228 f238) hZ (hw _ (List.mem_of_getElem? (i := 10) rfl)) (hw _ (List.mem_of_getElem? (i := 6) rfl)) (by decide) (by decide)) (g := (mkF m 95 #[.val (.int a), .val (.int b), .val (.ref nb1), .val (.int ((500 : Int32) + ((a >>> ((1 : Int32) &&& 31)) % (3 : Int32)))), .val (.ref (own_ex ((500 : Int32) + ((a >>> ((1 : Int32) &&& 31)) % (3 : Int32))) wD wR wX)), .unset] [(.int ((500 : Int32) + ((a >>> ((1 : Int32) &&& 31)) % (3 : Int32))))])) rfl (by rw [hml]; rfl) (argsL := [(.int ((500 : Int32) + ((a >>> ((1 : Int32) &&& 31)) % (3 : Int32))))]) (rest := []) (lenOf pd_0 rfl) rfl (by show 2 * 0 + _ ≤ _; exact Nat.le_of_eq rfl) (hb hby at_95) rfl hh239 (by decide) (by decide) ?_
      rintro v240 T240 L240 X240 ⟨rfl, Nq240, hh240⟩
      have N240 := Fr.app N239 Nq240
      show own_Go p e below _ T240 (mkF m 98 #[.val (.int a), .val (.int b), .val (.ref nb1), .val (.int ((500 : Int32) + ((a >>> ((1 : Int32) &&& 31)) % (3 : Int32)))), .val (.ref (own_ex ((500 : Int32) + ((a >>> ((1 : Int32) &&& 31)) % (3 : Int32))) wD wR wX)), .unset] [(.ref (own_ex ((500 : Int32) + ((a >>> ((1 : Int32) &&& 31)) % (3 : Int32))) wD wR wX))])
      refine own_st (fun t_ k_ => XS.astore X240.here hx rfl (hb hby at_98) rfl rfl (l' := #[.val (.int a), .val (.int b), .val (.ref nb1), .val (.int ((500 : Int32) + ((a >>> ((1 : Int32) &&& 31)) % (3 : Int32)))), .val (.ref (own_ex ((500 : Int32) + ((a >>> ((1 : Int32) &&& 31)) % (3 : Int32))) wD wR wX)), .val (.ref (own_ex ((500 : Int32) + ((a >>> ((1 : Int32) &&& 31)) % (3 : Int32))) wD wR wX))]) rfl k_) ?_
      show own_Go p e below _ T240 (mkF m 100 #[.val (.int a), .val (.int b), .val (.ref nb1), .val (.int ((500 : Int32) + ((a >>> ((1 : Int32) &&& 31)) % (3 : Int32)))), .val (.ref (own_ex ((500 : Int32) + ((a >>> ((1 : Int32) &&& 31)) % (3 : Int32))) wD wR wX)), .val (.ref (own_ex ((500 : Int32) + ((a >>> ((1 : Int32) &&& 31)) % (3 : Int32))) wD wR wX))] [])
      refine own_st (fun t_ k_ => XS.aload X240.here hx rfl (hb hby at_100) rfl rfl k_) ?_
      show own_Go p e below _ T240 (mkF m 102 #[.val (.int a), .val (.int b), .val (.ref nb1), .val (.int ((500 : Int32) + ((a >>> ((1 : Int32) &&& 31)) % (3 : Int32)))), .val (.ref (own_ex ((500 : Int32) + ((a >>> ((1 : Int32) &&& 31)) % (3 : Int32))) wD wR wX)), .val (.ref (own_ex ((500 : Int32) + ((a >>> ((1 : Int32) &&& 31)) % (3 : Int32))) wD wR wX))] [(.ref (own_ex ((500 : Int32) + ((a >>> ((1 : Int32) &&& 31)) % (3 : Int32))) wD wR wX))])
      refine own_st (fun t_ k_ => XS.aload X240.here hx rfl (hb hby at_102) rfl rfl k_) ?_
      show own_Go p e below _ T240 (mkF m 104 #[.val (.int a), .val (.int b), .val (.ref nb1), .val (.int ((500 : Int32) + ((a >>> ((1 : Int32) &&& 31)) % (3 : Int32)))), .val (.ref (own_ex ((500 : Int32) + ((a >>> ((1 : Int32) &&& 31)) % (3 : Int32))) wD wR wX)), .val (.ref (own_ex ((500 : Int32) + ((a >>> ((1 : Int32) &&& 31)) % (3 : Int32))) wD wR wX))] [(.ref (own_ex ((500 : Int32) + ((a >>> ((1 : Int32) &&& 31)) % (3 : Int32))) wD wR wX)), (.ref (own_ex ((500 : Int32) + ((a >>> ((1 : Int32) &&& 31)) % (3 : Int32))) wD wR wX))])
      refine own_st (fun t_ k_ => Jvm.RoadKit.acmp (g := (mkF m 104 #[.val (.int a), .val (.int b), .val (.ref nb1), .val (.int ((500 : Int32) + ((a >>> ((1 : Int32) &&& 31)) % (3 : Int32)))), .val (.ref (own_ex ((500 : Int32) + ((a >>> ((1 : Int32) &&& 31)) % (3 : Int32))) wD wR wX)), .val (.ref (own_ex ((500 : Int32) + ((a >>> ((1 : Int32) &&& 31)) % (3 : Int32))) wD wR wX))] [(.ref (own_ex ((500 : Int32) + ((a >>> ((1 : Int32) &&& 31)) % (3 : Int32))) wD wR wX)), (.ref (own_ex ((500 : Int32) + ((a >>> ((1 : Int32) &&& 31)) % (3 : Int32))) wD wR wX))])) X240 hx rfl rfl rfl (pc0 := 104) (pc' := 107) (same := true) rfl (hb hby at_104) rfl (decide_eq_true rfl) (by decide) (by decide) k_) ?_
      show own_Go p e below _ T240 (mkF m 107 #[.val (.int a), .val (.int b), .val (.ref nb1), .val (.int ((500 : Int32) + ((a >>> ((1 : Int32) &&& 31)) % (3 : Int32)))), .val (.ref (own_ex ((500 : Int32) + ((a >>> ((1 : Int32) &&& 31)) % (3 : Int32))) wD wR wX)), .val (.ref (own_ex ((500 : Int32) + ((a >>> ((1 : Int32) &&& 31)) % (3 : Int32))) wD wR wX))] [])
      refine own_st (fun t_ k_ => XS.iconst X240.here hx rfl (hb hby at_107) k_) ?_
      show own_Go p e below _ T240 (mkF m 108 #[.val (.int a), .val (.int b), .val (.ref nb1), .val (.int ((500 : Int32) + ((a >>> ((1 : Int32) &&& 31)) % (3 : Int32)))), .val (.ref (own_ex ((500 : Int32) + ((a >>> ((1 : Int32) &&& 31)) % (3 : Int32))) wD wR wX)), .val (.ref (own_ex ((500 : Int32) + ((a >>> ((1 : Int32) &&& 31)) % (3 : Int32))) wD wR wX))] [(.int (1 : Int32))])
      refine own_st (fun t_ k_ => XS.goto X240.here hx rfl (pc0 := 108) (pc' := 112) rfl (hb hby at_108) (by decide) (by decide) k_) ?_
      show own_Go p e below _ T240 (mkF m 112 #[.val (.int a), .val (.int b), .val (.ref nb1), .val (.int ((500 : Int32) + ((a >>> ((1 : Int32) &&& 31)) % (3 : Int32)))), .val (.ref (own_ex ((500 : Int32) + ((a >>> ((1 : Int32) &&& 31)) % (3 : Int32))) wD wR wX)), .val (.ref (own_ex ((500 : Int32) + ((a >>> ((1 : Int32) &&& 31)) % (3 : Int32))) wD wR wX))] [(.int (1 : Int32))])
      refine own_retN X240 hx hlk (t := .boolean) Bd.returns (by simp) (hb hby at_112) ?_ (by decide) (by decide)
      show Q0 n0 _ T240.heap _
      rw [hh240]
      exact ⟨rfl, N240⟩
    · show own_Go p e below _ T10 (mkF m 80 #[.val (.int a), .val (.int b), .val (.ref nb1), .unset, .unset, .unset] [(.int (6 : Int32)), (.ref nb1)])
      obtain ⟨cl241, Ar241, q241, S241, N241', H241, G241⟩ := V10
      have hin241 : ¬ ((6 : Int32) < 0 ∨ cl241.slots.size ≤ ((6 : Int32)).toNatClampNeg) := inb_of S241 ⟨by decide, by decide⟩
      refine own_st (fun t_ k_ => X10.iaload hx (j := (6 : Int32)) (v := (.int (502 : Int32))) (by rw [e10]; exact Ar241.1) (State.isArrayOf_alike hZ.alike Ar241.2.1) Ar241.2.2 hin241 (Has.at H241 hin241 rfl) (g := (mkF m 80 #[.val (.int a), .val (.int b), .val (.ref nb1), .unset, .unset, .unset] [(.int (6 : Int32)), (.ref nb1)])) rfl rfl (hb hby at_80) t_ k_) ?_
      show own_Go p e below _ T10 (mkF m 81 #[.val (.int a), .val (.int b), .val (.ref nb1), .unset, .unset, .unset] [(.int (502 : Int32))])
      refine own_st (fun t_ k_ => XS.iloadN X10.here hx rfl (hb hby at_81) rfl k_) ?_
      show own_Go p e below _ T10 (mkF m 82 #[.val (.int a), .val (.int b), .val (.ref nb1), .unset, .unset, .unset] [(.int a), (.int (502 : Int32))])
      refine own_st (fun t_ k_ => XS.iconst X10.here hx rfl (hb hby at_82) k_) ?_
      show own_Go p e below _ T10 (mkF m 83 #[.val (.int a), .val (.int b), .val (.ref nb1), .unset, .unset, .unset] [(.int (1 : Int32)), (.int a), (.int (502 : Int32))])
      refine own_st (fun t_ k_ => XS.ishr X10.here hx rfl (hb hby at_83) rfl k_) ?_
      show own_Go p e below _ T10 (mkF m 84 #[.val (.int a), .val (.int b), .val (.ref nb1), .unset, .unset, .unset] [(.int (a >>> ((1 : Int32) &&& 31))), (.int (502 : Int32))])
      refine own_st (fun t_ k_ => XS.iconst X10.here hx rfl (hb hby at_84) k_) ?_
      show own_Go p e below _ T10 (mkF m 85 #[.val (.int a), .val (.int b), .val (.ref nb1), .unset, .unset, .unset] [(.int (3 : Int32)), (.int (a >>> ((1 : Int32) &&& 31))), (.int (502 : Int32))])
      refine own_st (fun t_ k_ => Jvm.RoadKit.iremM (g := (mkF m 85 #[.val (.int a), .val (.int b), .val (.ref nb1), .unset, .unset, .unset] [(.int (3 : Int32)), (.int (a >>> ((1 : Int32) &&& 31))), (.int (502 : Int32))])) X10 hx rfl (hb hby at_85) rfl (by decide) k_) ?_
      show own_Go p e below _ T10 (mkF m 86 #[.val (.int a), .val (.int b), .val (.ref nb1), .unset, .unset, .unset] [(.int ((a >>> ((1 : Int32) &&& 31)) % (3 : Int32))), (.int (502 : Int32))])
      refine own_st (fun t_ k_ => XS.iadd X10.here hx rfl (hb hby at_86) rfl k_) ?_
      show own_Go p e below _ T10 (mkF m 87 #[.val (.int a), .val (.int b), .val (.ref nb1), .unset, .unset, .unset] [(.int ((502 : Int32) + ((a >>> ((1 : Int32) &&& 31)) % (3 : Int32))))])
      refine own_st (fun t_ k_ => XS.istoreN X10.here hx rfl (hb hby at_87) rfl (l' := #[.val (.int a), .val (.int b), .val (.ref nb1), .val (.int ((502 : Int32) + ((a >>> ((1 : Int32) &&& 31)) % (3 : Int32)))), .unset, .unset]) rfl k_) ?_
      show own_Go p e below _ T10 (mkF m 88 #[.val (.int a), .val (.int b), .val (.ref nb1), .val (.int ((502 : Int32) + ((a >>> ((1 : Int32) &&& 31)) % (3 : Int32)))), .unset, .unset] [])
      refine own_st (fun t_ k_ => XS.iloadN X10.here hx rfl (hb hby at_88) rfl k_) ?_
      show own_Go p e below _ T10 (mkF m 89 #[.val (.int a), .val (.int b), .val (.ref nb1), .val (.int ((502 : Int32) + ((a >>> ((1 : Int32) &&& 31)) % (3 : Int32)))), .unset, .unset] [(.int ((502 : Int32) + ((a >>> ((1 : Int32) &&& 31)) % (3 : Int32))))])
      have f242 := (Sta.ext E1 SD)
      have f243 := (Sta.wr W2 f242)
      have f244 := (Sta.wr W3 f243)
      have f245 := (Sta.wr W4 f244)
      have f246 := (Sta.wr W5 f245)
      have f247 := (Sta.wr W6 f246)
      have f248 := (Sta.wr W7 f247)
      have f249 := (Sta.wr W8 f248)
      have f250 := (Sta.wr W9 f249)
      have f251 := (Sta.wr W10 f250)
      have f252 := (Sta.ext E1 SR)
      have f253 := (Sta.wr W2 f252)
      have f254 := (Sta.wr W3 f253)
      have f255 := (Sta.wr W4 f254)
      have f256 := (Sta.wr W5 f255)
      have f257 := (Sta.wr W6 f256)
      have f258 := (Sta.wr W7 f257)
      have f259 := (Sta.wr W8 f258)
      have f260 := (Sta.wr W9 f259)
      have f261 := (Sta.wr W10 f260)
      have f262 := (Sta.ext E1 SX)
      have f263 := (Sta.wr W2 f262)
      have f264 := (Sta.wr W3 f263)
      have f265 := (Sta.wr W4 f264)
      have f266 := (Sta.wr W5 f265)
      have f267 := (Sta.wr W6 f266)
      have f268 := (Sta.wr W7 f267)
      have f269 := (Sta.wr W8 f268)
      have f270 := (Sta.wr W9 f269)
      have f271 := (Sta.wr W10 f270)
      refine own_callS X10 hx (y := (⟨"com/example/gentle_nudge/gentlenudge/protocol/OutcomeOfStatusPinLaw", "expectedOf", "(I)Lcom/example/gentle_nudge/gentlenudge/protocol/Outcome;"⟩ : MethodName)) hown (mvT hZ (hw _ (List.mem_of_getElem? (i := 1) rfl))) (mvT hZ (hw _ (List.mem_of_getElem? (i := 2) rfl))) (mvT hZ (hw _ (List.mem_of_getElem? (i := 3) rfl))) (mvT hZ (hw _ (List.mem_of_getElem? (i := 4) rfl))) (by decide) (backOf (W := 0) (rmE l Z a0 hw [] ((502 : Int32) + ((a >>> ((1 : Int32) &&& 31)) % (3 : Int32))) wD wR wX h10 n0 (Nat.le_trans Z0 K10.1) f251 f261 f271) hZ (hw _ (List.mem_of_getElem? (i := 4) rfl)) (hw _ (List.mem_of_getElem? (i := 3) rfl)) (by decide) (by decide)) (g := (mkF m 89 #[.val (.int a), .val (.int b), .val (.ref nb1), .val (.int ((502 : Int32) + ((a >>> ((1 : Int32) &&& 31)) % (3 : Int32)))), .unset, .unset] [(.int ((502 : Int32) + ((a >>> ((1 : Int32) &&& 31)) % (3 : Int32))))])) rfl (by rw [hml]; rfl) (argsL := [(.int ((502 : Int32) + ((a >>> ((1 : Int32) &&& 31)) % (3 : Int32))))]) (rest := []) (lenOf pd_0 rfl) rfl (by show 2 * 0 + _ ≤ _; exact Nat.le_of_eq rfl) (hb hby at_89) rfl e10 (by decide) (by decide) ?_
      rintro v272 T272 L272 X272 ⟨rfl, Nq272, hh272⟩
      have N272 := Fr.app N10 Nq272
      show own_Go p e below _ T272 (mkF m 92 #[.val (.int a), .val (.int b), .val (.ref nb1), .val (.int ((502 : Int32) + ((a >>> ((1 : Int32) &&& 31)) % (3 : Int32)))), .unset, .unset] [(.ref (own_ex ((502 : Int32) + ((a >>> ((1 : Int32) &&& 31)) % (3 : Int32))) wD wR wX))])
      refine own_st (fun t_ k_ => XS.astore X272.here hx rfl (hb hby at_92) rfl rfl (l' := #[.val (.int a), .val (.int b), .val (.ref nb1), .val (.int ((502 : Int32) + ((a >>> ((1 : Int32) &&& 31)) % (3 : Int32)))), .val (.ref (own_ex ((502 : Int32) + ((a >>> ((1 : Int32) &&& 31)) % (3 : Int32))) wD wR wX)), .unset]) rfl k_) ?_
      show own_Go p e below _ T272 (mkF m 94 #[.val (.int a), .val (.int b), .val (.ref nb1), .val (.int ((502 : Int32) + ((a >>> ((1 : Int32) &&& 31)) % (3 : Int32)))), .val (.ref (own_ex ((502 : Int32) + ((a >>> ((1 : Int32) &&& 31)) % (3 : Int32))) wD wR wX)), .unset] [])
      refine own_st (fun t_ k_ => XS.iloadN X272.here hx rfl (hb hby at_94) rfl k_) ?_
      show own_Go p e below _ T272 (mkF m 95 #[.val (.int a), .val (.int b), .val (.ref nb1), .val (.int ((502 : Int32) + ((a >>> ((1 : Int32) &&& 31)) % (3 : Int32)))), .val (.ref (own_ex ((502 : Int32) + ((a >>> ((1 : Int32) &&& 31)) % (3 : Int32))) wD wR wX)), .unset] [(.int ((502 : Int32) + ((a >>> ((1 : Int32) &&& 31)) % (3 : Int32))))])
      refine own_callS X272 hx (y := (⟨"com/example/gentle_nudge/gentlenudge/protocol/Outcome", "ofStatus", "(I)Lcom/example/gentle_nudge/gentlenudge/protocol/Outcome;"⟩ : MethodName)) hown (mvT hZ (hw _ (List.mem_of_getElem? (i := 8) rfl))) (mvT hZ (hw _ (List.mem_of_getElem? (i := 9) rfl))) (mvT hZ (hw _ (List.mem_of_getElem? (i := 6) rfl))) (mvT hZ (hw _ (List.mem_of_getElem? (i := 10) rfl))) (by decide) (backOf (W := 0) (rmO l Z a0 hw [] ((502 : Int32) + ((a >>> ((1 : Int32) &&& 31)) % (3 : Int32))) wD wR wX h10 n0 (Nat.le_trans Z0 K10.1) f251 f261 f271) hZ (hw _ (List.mem_of_getElem? (i := 10) rfl)) (hw _ (List.mem_of_getElem? (i := 6) rfl)) (by decide) (by decide)) (g := (mkF m 95 #[.val (.int a), .val (.int b), .val (.ref nb1), .val (.int ((502 : Int32) + ((a >>> ((1 : Int32) &&& 31)) % (3 : Int32)))), .val (.ref (own_ex ((502 : Int32) + ((a >>> ((1 : Int32) &&& 31)) % (3 : Int32))) wD wR wX)), .unset] [(.int ((502 : Int32) + ((a >>> ((1 : Int32) &&& 31)) % (3 : Int32))))])) rfl (by rw [hml]; rfl) (argsL := [(.int ((502 : Int32) + ((a >>> ((1 : Int32) &&& 31)) % (3 : Int32))))]) (rest := []) (lenOf pd_0 rfl) rfl (by show 2 * 0 + _ ≤ _; exact Nat.le_of_eq rfl) (hb hby at_95) rfl hh272 (by decide) (by decide) ?_
      rintro v273 T273 L273 X273 ⟨rfl, Nq273, hh273⟩
      have N273 := Fr.app N272 Nq273
      show own_Go p e below _ T273 (mkF m 98 #[.val (.int a), .val (.int b), .val (.ref nb1), .val (.int ((502 : Int32) + ((a >>> ((1 : Int32) &&& 31)) % (3 : Int32)))), .val (.ref (own_ex ((502 : Int32) + ((a >>> ((1 : Int32) &&& 31)) % (3 : Int32))) wD wR wX)), .unset] [(.ref (own_ex ((502 : Int32) + ((a >>> ((1 : Int32) &&& 31)) % (3 : Int32))) wD wR wX))])
      refine own_st (fun t_ k_ => XS.astore X273.here hx rfl (hb hby at_98) rfl rfl (l' := #[.val (.int a), .val (.int b), .val (.ref nb1), .val (.int ((502 : Int32) + ((a >>> ((1 : Int32) &&& 31)) % (3 : Int32)))), .val (.ref (own_ex ((502 : Int32) + ((a >>> ((1 : Int32) &&& 31)) % (3 : Int32))) wD wR wX)), .val (.ref (own_ex ((502 : Int32) + ((a >>> ((1 : Int32) &&& 31)) % (3 : Int32))) wD wR wX))]) rfl k_) ?_
      show own_Go p e below _ T273 (mkF m 100 #[.val (.int a), .val (.int b), .val (.ref nb1), .val (.int ((502 : Int32) + ((a >>> ((1 : Int32) &&& 31)) % (3 : Int32)))), .val (.ref (own_ex ((502 : Int32) + ((a >>> ((1 : Int32) &&& 31)) % (3 : Int32))) wD wR wX)), .val (.ref (own_ex ((502 : Int32) + ((a >>> ((1 : Int32) &&& 31)) % (3 : Int32))) wD wR wX))] [])
      refine own_st (fun t_ k_ => XS.aload X273.here hx rfl (hb hby at_100) rfl rfl k_) ?_
      show own_Go p e below _ T273 (mkF m 102 #[.val (.int a), .val (.int b), .val (.ref nb1), .val (.int ((502 : Int32) + ((a >>> ((1 : Int32) &&& 31)) % (3 : Int32)))), .val (.ref (own_ex ((502 : Int32) + ((a >>> ((1 : Int32) &&& 31)) % (3 : Int32))) wD wR wX)), .val (.ref (own_ex ((502 : Int32) + ((a >>> ((1 : Int32) &&& 31)) % (3 : Int32))) wD wR wX))] [(.ref (own_ex ((502 : Int32) + ((a >>> ((1 : Int32) &&& 31)) % (3 : Int32))) wD wR wX))])
      refine own_st (fun t_ k_ => XS.aload X273.here hx rfl (hb hby at_102) rfl rfl k_) ?_
      show own_Go p e below _ T273 (mkF m 104 #[.val (.int a), .val (.int b), .val (.ref nb1), .val (.int ((502 : Int32) + ((a >>> ((1 : Int32) &&& 31)) % (3 : Int32)))), .val (.ref (own_ex ((502 : Int32) + ((a >>> ((1 : Int32) &&& 31)) % (3 : Int32))) wD wR wX)), .val (.ref (own_ex ((502 : Int32) + ((a >>> ((1 : Int32) &&& 31)) % (3 : Int32))) wD wR wX))] [(.ref (own_ex ((502 : Int32) + ((a >>> ((1 : Int32) &&& 31)) % (3 : Int32))) wD wR wX)), (.ref (own_ex ((502 : Int32) + ((a >>> ((1 : Int32) &&& 31)) % (3 : Int32))) wD wR wX))])
      refine own_st (fun t_ k_ => Jvm.RoadKit.acmp (g := (mkF m 104 #[.val (.int a), .val (.int b), .val (.ref nb1), .val (.int ((502 : Int32) + ((a >>> ((1 : Int32) &&& 31)) % (3 : Int32)))), .val (.ref (own_ex ((502 : Int32) + ((a >>> ((1 : Int32) &&& 31)) % (3 : Int32))) wD wR wX)), .val (.ref (own_ex ((502 : Int32) + ((a >>> ((1 : Int32) &&& 31)) % (3 : Int32))) wD wR wX))] [(.ref (own_ex ((502 : Int32) + ((a >>> ((1 : Int32) &&& 31)) % (3 : Int32))) wD wR wX)), (.ref (own_ex ((502 : Int32) + ((a >>> ((1 : Int32) &&& 31)) % (3 : Int32))) wD wR wX))])) X273 hx rfl rfl rfl (pc0 := 104) (pc' := 107) (same := true) rfl (hb hby at_104) rfl (decide_eq_true rfl) (by decide) (by decide) k_) ?_
      show own_Go p e below _ T273 (mkF m 107 #[.val (.int a), .val (.int b), .val (.ref nb1), .val (.int ((502 : Int32) + ((a >>> ((1 : Int32) &&& 31)) % (3 : Int32)))), .val (.ref (own_ex ((502 : Int32) + ((a >>> ((1 : Int32) &&& 31)) % (3 : Int32))) wD wR wX)), .val (.ref (own_ex ((502 : Int32) + ((a >>> ((1 : Int32) &&& 31)) % (3 : Int32))) wD wR wX))] [])
      refine own_st (fun t_ k_ => XS.iconst X273.here hx rfl (hb hby at_107) k_) ?_
      show own_Go p e below _ T273 (mkF m 108 #[.val (.int a), .val (.int b), .val (.ref nb1), .val (.int ((502 : Int32) + ((a >>> ((1 : Int32) &&& 31)) % (3 : Int32)))), .val (.ref (own_ex ((502 : Int32) + ((a >>> ((1 : Int32) &&& 31)) % (3 : Int32))) wD wR wX)), .val (.ref (own_ex ((502 : Int32) + ((a >>> ((1 : Int32) &&& 31)) % (3 : Int32))) wD wR wX))] [(.int (1 : Int32))])
      refine own_st (fun t_ k_ => XS.goto X273.here hx rfl (pc0 := 108) (pc' := 112) rfl (hb hby at_108) (by decide) (by decide) k_) ?_
      show own_Go p e below _ T273 (mkF m 112 #[.val (.int a), .val (.int b), .val (.ref nb1), .val (.int ((502 : Int32) + ((a >>> ((1 : Int32) &&& 31)) % (3 : Int32)))), .val (.ref (own_ex ((502 : Int32) + ((a >>> ((1 : Int32) &&& 31)) % (3 : Int32))) wD wR wX)), .val (.ref (own_ex ((502 : Int32) + ((a >>> ((1 : Int32) &&& 31)) % (3 : Int32))) wD wR wX))] [(.int (1 : Int32))])
      refine own_retN X273 hx hlk (t := .boolean) Bd.returns (by simp) (hb hby at_112) ?_ (by decide) (by decide)
      show Q0 n0 _ T273.heap _
      rw [hh273]
      exact ⟨rfl, N273⟩
    · show own_Go p e below _ T10 (mkF m 80 #[.val (.int a), .val (.int b), .val (.ref nb1), .unset, .unset, .unset] [(.int (7 : Int32)), (.ref nb1)])
      obtain ⟨cl274, Ar274, q274, S274, N274', H274, G274⟩ := V10
      have hin274 : ¬ ((7 : Int32) < 0 ∨ cl274.slots.size ≤ ((7 : Int32)).toNatClampNeg) := inb_of S274 ⟨by decide, by decide⟩
      refine own_st (fun t_ k_ => X10.iaload hx (j := (7 : Int32)) (v := (.int (503 : Int32))) (by rw [e10]; exact Ar274.1) (State.isArrayOf_alike hZ.alike Ar274.2.1) Ar274.2.2 hin274 (Has.at H274 hin274 rfl) (g := (mkF m 80 #[.val (.int a), .val (.int b), .val (.ref nb1), .unset, .unset, .unset] [(.int (7 : Int32)), (.ref nb1)])) rfl rfl (hb hby at_80) t_ k_) ?_
      show own_Go p e below _ T10 (mkF m 81 #[.val (.int a), .val (.int b), .val (.ref nb1), .unset, .unset, .unset] [(.int (503 : Int32))])
      refine own_st (fun t_ k_ => XS.iloadN X10.here hx rfl (hb hby at_81) rfl k_) ?_
      show own_Go p e below _ T10 (mkF m 82 #[.val (.int a), .val (.int b), .val (.ref nb1), .unset, .unset, .unset] [(.int a), (.int (503 : Int32))])
      refine own_st (fun t_ k_ => XS.iconst X10.here hx rfl (hb hby at_82) k_) ?_
      show own_Go p e below _ T10 (mkF m 83 #[.val (.int a), .val (.int b), .val (.ref nb1), .unset, .unset, .unset] [(.int (1 : Int32)), (.int a), (.int (503 : Int32))])
      refine own_st (fun t_ k_ => XS.ishr X10.here hx rfl (hb hby at_83) rfl k_) ?_
      show own_Go p e below _ T10 (mkF m 84 #[.val (.int a), .val (.int b), .val (.ref nb1), .unset, .unset, .unset] [(.int (a >>> ((1 : Int32) &&& 31))), (.int (503 : Int32))])
      refine own_st (fun t_ k_ => XS.iconst X10.here hx rfl (hb hby at_84) k_) ?_
      show own_Go p e below _ T10 (mkF m 85 #[.val (.int a), .val (.int b), .val (.ref nb1), .unset, .unset, .unset] [(.int (3 : Int32)), (.int (a >>> ((1 : Int32) &&& 31))), (.int (503 : Int32))])
      refine own_st (fun t_ k_ => Jvm.RoadKit.iremM (g := (mkF m 85 #[.val (.int a), .val (.int b), .val (.ref nb1), .unset, .unset, .unset] [(.int (3 : Int32)), (.int (a >>> ((1 : Int32) &&& 31))), (.int (503 : Int32))])) X10 hx rfl (hb hby at_85) rfl (by decide) k_) ?_
      show own_Go p e below _ T10 (mkF m 86 #[.val (.int a), .val (.int b), .val (.ref nb1), .unset, .unset, .unset] [(.int ((a >>> ((1 : Int32) &&& 31)) % (3 : Int32))), (.int (503 : Int32))])
      refine own_st (fun t_ k_ => XS.iadd X10.here hx rfl (hb hby at_86) rfl k_) ?_
      show own_Go p e below _ T10 (mkF m 87 #[.val (.int a), .val (.int b), .val (.ref nb1), .unset, .unset, .unset] [(.int ((503 : Int32) + ((a >>> ((1 : Int32) &&& 31)) % (3 : Int32))))])
      refine own_st (fun t_ k_ => XS.istoreN X10.here hx rfl (hb hby at_87) rfl (l' := #[.val (.int a), .val (.int b), .val (.ref nb1), .val (.int ((503 : Int32) + ((a >>> ((1 : Int32) &&& 31)) % (3 : Int32)))), .unset, .unset]) rfl k_) ?_
      show own_Go p e below _ T10 (mkF m 88 #[.val (.int a), .val (.int b), .val (.ref nb1), .val (.int ((503 : Int32) + ((a >>> ((1 : Int32) &&& 31)) % (3 : Int32)))), .unset, .unset] [])
      refine own_st (fun t_ k_ => XS.iloadN X10.here hx rfl (hb hby at_88) rfl k_) ?_
      show own_Go p e below _ T10 (mkF m 89 #[.val (.int a), .val (.int b), .val (.ref nb1), .val (.int ((503 : Int32) + ((a >>> ((1 : Int32) &&& 31)) % (3 : Int32)))), .unset, .unset] [(.int ((503 : Int32) + ((a >>> ((1 : Int32) &&& 31)) % (3 : Int32))))])
      have f275 := (Sta.ext E1 SD)
      have f276 := (Sta.wr W2 f275)
      have f277 := (Sta.wr W3 f276)
      have f278 := (Sta.wr W4 f277)
      have f279 := (Sta.wr W5 f278)
      have f280 := (Sta.wr W6 f279)
      have f281 := (Sta.wr W7 f280)
      have f282 := (Sta.wr W8 f281)
      have f283 := (Sta.wr W9 f282)
      have f284 := (Sta.wr W10 f283)
      have f285 := (Sta.ext E1 SR)
      have f286 := (Sta.wr W2 f285)
      have f287 := (Sta.wr W3 f286)
      have f288 := (Sta.wr W4 f287)
      have f289 := (Sta.wr W5 f288)
      have f290 := (Sta.wr W6 f289)
      have f291 := (Sta.wr W7 f290)
      have f292 := (Sta.wr W8 f291)
      have f293 := (Sta.wr W9 f292)
      have f294 := (Sta.wr W10 f293)
      have f295 := (Sta.ext E1 SX)
      have f296 := (Sta.wr W2 f295)
      have f297 := (Sta.wr W3 f296)
      have f298 := (Sta.wr W4 f297)
      have f299 := (Sta.wr W5 f298)
      have f300 := (Sta.wr W6 f299)
      have f301 := (Sta.wr W7 f300)
      have f302 := (Sta.wr W8 f301)
      have f303 := (Sta.wr W9 f302)
      have f304 := (Sta.wr W10 f303)
      refine own_callS X10 hx (y := (⟨"com/example/gentle_nudge/gentlenudge/protocol/OutcomeOfStatusPinLaw", "expectedOf", "(I)Lcom/example/gentle_nudge/gentlenudge/protocol/Outcome;"⟩ : MethodName)) hown (mvT hZ (hw _ (List.mem_of_getElem? (i := 1) rfl))) (mvT hZ (hw _ (List.mem_of_getElem? (i := 2) rfl))) (mvT hZ (hw _ (List.mem_of_getElem? (i := 3) rfl))) (mvT hZ (hw _ (List.mem_of_getElem? (i := 4) rfl))) (by decide) (backOf (W := 0) (rmE l Z a0 hw [] ((503 : Int32) + ((a >>> ((1 : Int32) &&& 31)) % (3 : Int32))) wD wR wX h10 n0 (Nat.le_trans Z0 K10.1) f284 f294 f304) hZ (hw _ (List.mem_of_getElem? (i := 4) rfl)) (hw _ (List.mem_of_getElem? (i := 3) rfl)) (by decide) (by decide)) (g := (mkF m 89 #[.val (.int a), .val (.int b), .val (.ref nb1), .val (.int ((503 : Int32) + ((a >>> ((1 : Int32) &&& 31)) % (3 : Int32)))), .unset, .unset] [(.int ((503 : Int32) + ((a >>> ((1 : Int32) &&& 31)) % (3 : Int32))))])) rfl (by rw [hml]; rfl) (argsL := [(.int ((503 : Int32) + ((a >>> ((1 : Int32) &&& 31)) % (3 : Int32))))]) (rest := []) (lenOf pd_0 rfl) rfl (by show 2 * 0 + _ ≤ _; exact Nat.le_of_eq rfl) (hb hby at_89) rfl e10 (by decide) (by decide) ?_
      rintro v305 T305 L305 X305 ⟨rfl, Nq305, hh305⟩
      have N305 := Fr.app N10 Nq305
      show own_Go p e below _ T305 (mkF m 92 #[.val (.int a), .val (.int b), .val (.ref nb1), .val (.int ((503 : Int32) + ((a >>> ((1 : Int32) &&& 31)) % (3 : Int32)))), .unset, .unset] [(.ref (own_ex ((503 : Int32) + ((a >>> ((1 : Int32) &&& 31)) % (3 : Int32))) wD wR wX))])
      refine own_st (fun t_ k_ => XS.astore X305.here hx rfl (hb hby at_92) rfl rfl (l' := #[.val (.int a), .val (.int b), .val (.ref nb1), .val (.int ((503 : Int32) + ((a >>> ((1 : Int32) &&& 31)) % (3 : Int32)))), .val (.ref (own_ex ((503 : Int32) + ((a >>> ((1 : Int32) &&& 31)) % (3 : Int32))) wD wR wX)), .unset]) rfl k_) ?_
      show own_Go p e below _ T305 (mkF m 94 #[.val (.int a), .val (.int b), .val (.ref nb1), .val (.int ((503 : Int32) + ((a >>> ((1 : Int32) &&& 31)) % (3 : Int32)))), .val (.ref (own_ex ((503 : Int32) + ((a >>> ((1 : Int32) &&& 31)) % (3 : Int32))) wD wR wX)), .unset] [])
      refine own_st (fun t_ k_ => XS.iloadN X305.here hx rfl (hb hby at_94) rfl k_) ?_
      show own_Go p e below _ T305 (mkF m 95 #[.val (.int a), .val (.int b), .val (.ref nb1), .val (.int ((503 : Int32) + ((a >>> ((1 : Int32) &&& 31)) % (3 : Int32)))), .val (.ref (own_ex ((503 : Int32) + ((a >>> ((1 : Int32) &&& 31)) % (3 : Int32))) wD wR wX)), .unset] [(.int ((503 : Int32) + ((a >>> ((1 : Int32) &&& 31)) % (3 : Int32))))])
      refine own_callS X305 hx (y := (⟨"com/example/gentle_nudge/gentlenudge/protocol/Outcome", "ofStatus", "(I)Lcom/example/gentle_nudge/gentlenudge/protocol/Outcome;"⟩ : MethodName)) hown (mvT hZ (hw _ (List.mem_of_getElem? (i := 8) rfl))) (mvT hZ (hw _ (List.mem_of_getElem? (i := 9) rfl))) (mvT hZ (hw _ (List.mem_of_getElem? (i := 6) rfl))) (mvT hZ (hw _ (List.mem_of_getElem? (i := 10) rfl))) (by decide) (backOf (W := 0) (rmO l Z a0 hw [] ((503 : Int32) + ((a >>> ((1 : Int32) &&& 31)) % (3 : Int32))) wD wR wX h10 n0 (Nat.le_trans Z0 K10.1) f284 f294 f304) hZ (hw _ (List.mem_of_getElem? (i := 10) rfl)) (hw _ (List.mem_of_getElem? (i := 6) rfl)) (by decide) (by decide)) (g := (mkF m 95 #[.val (.int a), .val (.int b), .val (.ref nb1), .val (.int ((503 : Int32) + ((a >>> ((1 : Int32) &&& 31)) % (3 : Int32)))), .val (.ref (own_ex ((503 : Int32) + ((a >>> ((1 : Int32) &&& 31)) % (3 : Int32))) wD wR wX)), .unset] [(.int ((503 : Int32) + ((a >>> ((1 : Int32) &&& 31)) % (3 : Int32))))])) rfl (by rw [hml]; rfl) (argsL := [(.int ((503 : Int32) + ((a >>> ((1 : Int32) &&& 31)) % (3 : Int32))))]) (rest := []) (lenOf pd_0 rfl) rfl (by show 2 * 0 + _ ≤ _; exact Nat.le_of_eq rfl) (hb hby at_95) rfl hh305 (by decide) (by decide) ?_
      rintro v306 T306 L306 X306 ⟨rfl, Nq306, hh306⟩
      have N306 := Fr.app N305 Nq306
      show own_Go p e below _ T306 (mkF m 98 #[.val (.int a), .val (.int b), .val (.ref nb1), .val (.int ((503 : Int32) + ((a >>> ((1 : Int32) &&& 31)) % (3 : Int32)))), .val (.ref (own_ex ((503 : Int32) + ((a >>> ((1 : Int32) &&& 31)) % (3 : Int32))) wD wR wX)), .unset] [(.ref (own_ex ((503 : Int32) + ((a >>> ((1 : Int32) &&& 31)) % (3 : Int32))) wD wR wX))])
      refine own_st (fun t_ k_ => XS.astore X306.here hx rfl (hb hby at_98) rfl rfl (l' := #[.val (.int a), .val (.int b), .val (.ref nb1), .val (.int ((503 : Int32) + ((a >>> ((1 : Int32) &&& 31)) % (3 : Int32)))), .val (.ref (own_ex ((503 : Int32) + ((a >>> ((1 : Int32) &&& 31)) % (3 : Int32))) wD wR wX)), .val (.ref (own_ex ((503 : Int32) + ((a >>> ((1 : Int32) &&& 31)) % (3 : Int32))) wD wR wX))]) rfl k_) ?_
      show own_Go p e below _ T306 (mkF m 100 #[.val (.int a), .val (.int b), .val (.ref nb1), .val (.int ((503 : Int32) + ((a >>> ((1 : Int32) &&& 31)) % (3 : Int32)))), .val (.ref (own_ex ((503 : Int32) + ((a >>> ((1 : Int32) &&& 31)) % (3 : Int32))) wD wR wX)), .val (.ref (own_ex ((503 : Int32) + ((a >>> ((1 : Int32) &&& 31)) % (3 : Int32))) wD wR wX))] [])
      refine own_st (fun t_ k_ => XS.aload X306.here hx rfl (hb hby at_100) rfl rfl k_) ?_
      show own_Go p e below _ T306 (mkF m 102 #[.val (.int a), .val (.int b), .val (.ref nb1), .val (.int ((503 : Int32) + ((a >>> ((1 : Int32) &&& 31)) % (3 : Int32)))), .val (.ref (own_ex ((503 : Int32) + ((a >>> ((1 : Int32) &&& 31)) % (3 : Int32))) wD wR wX)), .val (.ref (own_ex ((503 : Int32) + ((a >>> ((1 : Int32) &&& 31)) % (3 : Int32))) wD wR wX))] [(.ref (own_ex ((503 : Int32) + ((a >>> ((1 : Int32) &&& 31)) % (3 : Int32))) wD wR wX))])
      refine own_st (fun t_ k_ => XS.aload X306.here hx rfl (hb hby at_102) rfl rfl k_) ?_
      show own_Go p e below _ T306 (mkF m 104 #[.val (.int a), .val (.int b), .val (.ref nb1), .val (.int ((503 : Int32) + ((a >>> ((1 : Int32) &&& 31)) % (3 : Int32)))), .val (.ref (own_ex ((503 : Int32) + ((a >>> ((1 : Int32) &&& 31)) % (3 : Int32))) wD wR wX)), .val (.ref (own_ex ((503 : Int32) + ((a >>> ((1 : Int32) &&& 31)) % (3 : Int32))) wD wR wX))] [(.ref (own_ex ((503 : Int32) + ((a >>> ((1 : Int32) &&& 31)) % (3 : Int32))) wD wR wX)), (.ref (own_ex ((503 : Int32) + ((a >>> ((1 : Int32) &&& 31)) % (3 : Int32))) wD wR wX))])
      refine own_st (fun t_ k_ => Jvm.RoadKit.acmp (g := (mkF m 104 #[.val (.int a), .val (.int b), .val (.ref nb1), .val (.int ((503 : Int32) + ((a >>> ((1 : Int32) &&& 31)) % (3 : Int32)))), .val (.ref (own_ex ((503 : Int32) + ((a >>> ((1 : Int32) &&& 31)) % (3 : Int32))) wD wR wX)), .val (.ref (own_ex ((503 : Int32) + ((a >>> ((1 : Int32) &&& 31)) % (3 : Int32))) wD wR wX))] [(.ref (own_ex ((503 : Int32) + ((a >>> ((1 : Int32) &&& 31)) % (3 : Int32))) wD wR wX)), (.ref (own_ex ((503 : Int32) + ((a >>> ((1 : Int32) &&& 31)) % (3 : Int32))) wD wR wX))])) X306 hx rfl rfl rfl (pc0 := 104) (pc' := 107) (same := true) rfl (hb hby at_104) rfl (decide_eq_true rfl) (by decide) (by decide) k_) ?_
      show own_Go p e below _ T306 (mkF m 107 #[.val (.int a), .val (.int b), .val (.ref nb1), .val (.int ((503 : Int32) + ((a >>> ((1 : Int32) &&& 31)) % (3 : Int32)))), .val (.ref (own_ex ((503 : Int32) + ((a >>> ((1 : Int32) &&& 31)) % (3 : Int32))) wD wR wX)), .val (.ref (own_ex ((503 : Int32) + ((a >>> ((1 : Int32) &&& 31)) % (3 : Int32))) wD wR wX))] [])
      refine own_st (fun t_ k_ => XS.iconst X306.here hx rfl (hb hby at_107) k_) ?_
      show own_Go p e below _ T306 (mkF m 108 #[.val (.int a), .val (.int b), .val (.ref nb1), .val (.int ((503 : Int32) + ((a >>> ((1 : Int32) &&& 31)) % (3 : Int32)))), .val (.ref (own_ex ((503 : Int32) + ((a >>> ((1 : Int32) &&& 31)) % (3 : Int32))) wD wR wX)), .val (.ref (own_ex ((503 : Int32) + ((a >>> ((1 : Int32) &&& 31)) % (3 : Int32))) wD wR wX))] [(.int (1 : Int32))])
      refine own_st (fun t_ k_ => XS.goto X306.here hx rfl (pc0 := 108) (pc' := 112) rfl (hb hby at_108) (by decide) (by decide) k_) ?_
      show own_Go p e below _ T306 (mkF m 112 #[.val (.int a), .val (.int b), .val (.ref nb1), .val (.int ((503 : Int32) + ((a >>> ((1 : Int32) &&& 31)) % (3 : Int32)))), .val (.ref (own_ex ((503 : Int32) + ((a >>> ((1 : Int32) &&& 31)) % (3 : Int32))) wD wR wX)), .val (.ref (own_ex ((503 : Int32) + ((a >>> ((1 : Int32) &&& 31)) % (3 : Int32))) wD wR wX))] [(.int (1 : Int32))])
      refine own_retN X306 hx hlk (t := .boolean) Bd.returns (by simp) (hb hby at_112) ?_ (by decide) (by decide)
      show Q0 n0 _ T306.heap _
      rw [hh306]
      exact ⟨rfl, N306⟩
    · show own_Go p e below _ T10 (mkF m 80 #[.val (.int a), .val (.int b), .val (.ref nb1), .unset, .unset, .unset] [(.int (8 : Int32)), (.ref nb1)])
      obtain ⟨cl307, Ar307, q307, S307, N307', H307, G307⟩ := V10
      have hin307 : ¬ ((8 : Int32) < 0 ∨ cl307.slots.size ≤ ((8 : Int32)).toNatClampNeg) := inb_of S307 ⟨by decide, by decide⟩
      refine own_st (fun t_ k_ => X10.iaload hx (j := (8 : Int32)) (v := (.int (504 : Int32))) (by rw [e10]; exact Ar307.1) (State.isArrayOf_alike hZ.alike Ar307.2.1) Ar307.2.2 hin307 (Has.at H307 hin307 rfl) (g := (mkF m 80 #[.val (.int a), .val (.int b), .val (.ref nb1), .unset, .unset, .unset] [(.int (8 : Int32)), (.ref nb1)])) rfl rfl (hb hby at_80) t_ k_) ?_
      show own_Go p e below _ T10 (mkF m 81 #[.val (.int a), .val (.int b), .val (.ref nb1), .unset, .unset, .unset] [(.int (504 : Int32))])
      refine own_st (fun t_ k_ => XS.iloadN X10.here hx rfl (hb hby at_81) rfl k_) ?_
      show own_Go p e below _ T10 (mkF m 82 #[.val (.int a), .val (.int b), .val (.ref nb1), .unset, .unset, .unset] [(.int a), (.int (504 : Int32))])
      refine own_st (fun t_ k_ => XS.iconst X10.here hx rfl (hb hby at_82) k_) ?_
      show own_Go p e below _ T10 (mkF m 83 #[.val (.int a), .val (.int b), .val (.ref nb1), .unset, .unset, .unset] [(.int (1 : Int32)), (.int a), (.int (504 : Int32))])
      refine own_st (fun t_ k_ => XS.ishr X10.here hx rfl (hb hby at_83) rfl k_) ?_
      show own_Go p e below _ T10 (mkF m 84 #[.val (.int a), .val (.int b), .val (.ref nb1), .unset, .unset, .unset] [(.int (a >>> ((1 : Int32) &&& 31))), (.int (504 : Int32))])
      refine own_st (fun t_ k_ => XS.iconst X10.here hx rfl (hb hby at_84) k_) ?_
      show own_Go p e below _ T10 (mkF m 85 #[.val (.int a), .val (.int b), .val (.ref nb1), .unset, .unset, .unset] [(.int (3 : Int32)), (.int (a >>> ((1 : Int32) &&& 31))), (.int (504 : Int32))])
      refine own_st (fun t_ k_ => Jvm.RoadKit.iremM (g := (mkF m 85 #[.val (.int a), .val (.int b), .val (.ref nb1), .unset, .unset, .unset] [(.int (3 : Int32)), (.int (a >>> ((1 : Int32) &&& 31))), (.int (504 : Int32))])) X10 hx rfl (hb hby at_85) rfl (by decide) k_) ?_
      show own_Go p e below _ T10 (mkF m 86 #[.val (.int a), .val (.int b), .val (.ref nb1), .unset, .unset, .unset] [(.int ((a >>> ((1 : Int32) &&& 31)) % (3 : Int32))), (.int (504 : Int32))])
      refine own_st (fun t_ k_ => XS.iadd X10.here hx rfl (hb hby at_86) rfl k_) ?_
      show own_Go p e below _ T10 (mkF m 87 #[.val (.int a), .val (.int b), .val (.ref nb1), .unset, .unset, .unset] [(.int ((504 : Int32) + ((a >>> ((1 : Int32) &&& 31)) % (3 : Int32))))])
      refine own_st (fun t_ k_ => XS.istoreN X10.here hx rfl (hb hby at_87) rfl (l' := #[.val (.int a), .val (.int b), .val (.ref nb1), .val (.int ((504 : Int32) + ((a >>> ((1 : Int32) &&& 31)) % (3 : Int32)))), .unset, .unset]) rfl k_) ?_
      show own_Go p e below _ T10 (mkF m 88 #[.val (.int a), .val (.int b), .val (.ref nb1), .val (.int ((504 : Int32) + ((a >>> ((1 : Int32) &&& 31)) % (3 : Int32)))), .unset, .unset] [])
      refine own_st (fun t_ k_ => XS.iloadN X10.here hx rfl (hb hby at_88) rfl k_) ?_
      show own_Go p e below _ T10 (mkF m 89 #[.val (.int a), .val (.int b), .val (.ref nb1), .val (.int ((504 : Int32) + ((a >>> ((1 : Int32) &&& 31)) % (3 : Int32)))), .unset, .unset] [(.int ((504 : Int32) + ((a >>> ((1 : Int32) &&& 31)) % (3 : Int32))))])
      have f308 := (Sta.ext E1 SD)
      have f309 := (Sta.wr W2 f308)
      have f310 := (Sta.wr W3 f309)
      have f311 := (Sta.wr W4 f310)
      have f312 := (Sta.wr W5 f311)
      have f313 := (Sta.wr W6 f312)
      have f314 := (Sta.wr W7 f313)
      have f315 := (Sta.wr W8 f314)
      have f316 := (Sta.wr W9 f315)
      have f317 := (Sta.wr W10 f316)
      have f318 := (Sta.ext E1 SR)
      have f319 := (Sta.wr W2 f318)
      have f320 := (Sta.wr W3 f319)
      have f321 := (Sta.wr W4 f320)
      have f322 := (Sta.wr W5 f321)
      have f323 := (Sta.wr W6 f322)
      have f324 := (Sta.wr W7 f323)
      have f325 := (Sta.wr W8 f324)
      have f326 := (Sta.wr W9 f325)
      have f327 := (Sta.wr W10 f326)
      have f328 := (Sta.ext E1 SX)
      have f329 := (Sta.wr W2 f328)
      have f330 := (Sta.wr W3 f329)
      have f331 := (Sta.wr W4 f330)
      have f332 := (Sta.wr W5 f331)
      have f333 := (Sta.wr W6 f332)
      have f334 := (Sta.wr W7 f333)
      have f335 := (Sta.wr W8 f334)
      have f336 := (Sta.wr W9 f335)
      have f337 := (Sta.wr W10 f336)
      refine own_callS X10 hx (y := (⟨"com/example/gentle_nudge/gentlenudge/protocol/OutcomeOfStatusPinLaw", "expectedOf", "(I)Lcom/example/gentle_nudge/gentlenudge/protocol/Outcome;"⟩ : MethodName)) hown (mvT hZ (hw _ (List.mem_of_getElem? (i := 1) rfl))) (mvT hZ (hw _ (List.mem_of_getElem? (i := 2) rfl))) (mvT hZ (hw _ (List.mem_of_getElem? (i := 3) rfl))) (mvT hZ (hw _ (List.mem_of_getElem? (i := 4) rfl))) (by decide) (backOf (W := 0) (rmE l Z a0 hw [] ((504 : Int32) + ((a >>> ((1 : Int32) &&& 31)) % (3 : Int32))) wD wR wX h10 n0 (Nat.le_trans Z0 K10.1) f317 f327 f337) hZ (hw _ (List.mem_of_getElem? (i := 4) rfl)) (hw _ (List.mem_of_getElem? (i := 3) rfl)) (by decide) (by decide)) (g := (mkF m 89 #[.val (.int a), .val (.int b), .val (.ref nb1), .val (.int ((504 : Int32) + ((a >>> ((1 : Int32) &&& 31)) % (3 : Int32)))), .unset, .unset] [(.int ((504 : Int32) + ((a >>> ((1 : Int32) &&& 31)) % (3 : Int32))))])) rfl (by rw [hml]; rfl) (argsL := [(.int ((504 : Int32) + ((a >>> ((1 : Int32) &&& 31)) % (3 : Int32))))]) (rest := []) (lenOf pd_0 rfl) rfl (by show 2 * 0 + _ ≤ _; exact Nat.le_of_eq rfl) (hb hby at_89) rfl e10 (by decide) (by decide) ?_
      rintro v338 T338 L338 X338 ⟨rfl, Nq338, hh338⟩
      have N338 := Fr.app N10 Nq338
      show own_Go p e below _ T338 (mkF m 92 #[.val (.int a), .val (.int b), .val (.ref nb1), .val (.int ((504 : Int32) + ((a >>> ((1 : Int32) &&& 31)) % (3 : Int32)))), .unset, .unset] [(.ref (own_ex ((504 : Int32) + ((a >>> ((1 : Int32) &&& 31)) % (3 : Int32))) wD wR wX))])
      refine own_st (fun t_ k_ => XS.astore X338.here hx rfl (hb hby at_92) rfl rfl (l' := #[.val (.int a), .val (.int b), .val (.ref nb1), .val (.int ((504 : Int32) + ((a >>> ((1 : Int32) &&& 31)) % (3 : Int32)))), .val (.ref (own_ex ((504 : Int32) + ((a >>> ((1 : Int32) &&& 31)) % (3 : Int32))) wD wR wX)), .unset]) rfl k_) ?_
      show own_Go p e below _ T338 (mkF m 94 #[.val (.int a), .val (.int b), .val (.ref nb1), .val (.int ((504 : Int32) + ((a >>> ((1 : Int32) &&& 31)) % (3 : Int32)))), .val (.ref (own_ex ((504 : Int32) + ((a >>> ((1 : Int32) &&& 31)) % (3 : Int32))) wD wR wX)), .unset] [])
      refine own_st (fun t_ k_ => XS.iloadN X338.here hx rfl (hb hby at_94) rfl k_) ?_
      show own_Go p e below _ T338 (mkF m 95 #[.val (.int a), .val (.int b), .val (.ref nb1), .val (.int ((504 : Int32) + ((a >>> ((1 : Int32) &&& 31)) % (3 : Int32)))), .val (.ref (own_ex ((504 : Int32) + ((a >>> ((1 : Int32) &&& 31)) % (3 : Int32))) wD wR wX)), .unset] [(.int ((504 : Int32) + ((a >>> ((1 : Int32) &&& 31)) % (3 : Int32))))])
      refine own_callS X338 hx (y := (⟨"com/example/gentle_nudge/gentlenudge/protocol/Outcome", "ofStatus", "(I)Lcom/example/gentle_nudge/gentlenudge/protocol/Outcome;"⟩ : MethodName)) hown (mvT hZ (hw _ (List.mem_of_getElem? (i := 8) rfl))) (mvT hZ (hw _ (List.mem_of_getElem? (i := 9) rfl))) (mvT hZ (hw _ (List.mem_of_getElem? (i := 6) rfl))) (mvT hZ (hw _ (List.mem_of_getElem? (i := 10) rfl))) (by decide) (backOf (W := 0) (rmO l Z a0 hw [] ((504 : Int32) + ((a >>> ((1 : Int32) &&& 31)) % (3 : Int32))) wD wR wX h10 n0 (Nat.le_trans Z0 K10.1) f317 f327 f337) hZ (hw _ (List.mem_of_getElem? (i := 10) rfl)) (hw _ (List.mem_of_getElem? (i := 6) rfl)) (by decide) (by decide)) (g := (mkF m 95 #[.val (.int a), .val (.int b), .val (.ref nb1), .val (.int ((504 : Int32) + ((a >>> ((1 : Int32) &&& 31)) % (3 : Int32)))), .val (.ref (own_ex ((504 : Int32) + ((a >>> ((1 : Int32) &&& 31)) % (3 : Int32))) wD wR wX)), .unset] [(.int ((504 : Int32) + ((a >>> ((1 : Int32) &&& 31)) % (3 : Int32))))])) rfl (by rw [hml]; rfl) (argsL := [(.int ((504 : Int32) + ((a >>> ((1 : Int32) &&& 31)) % (3 : Int32))))]) (rest := []) (lenOf pd_0 rfl) rfl (by show 2 * 0 + _ ≤ _; exact Nat.le_of_eq rfl) (hb hby at_95) rfl hh338 (by decide) (by decide) ?_
      rintro v339 T339 L339 X339 ⟨rfl, Nq339, hh339⟩
      have N339 := Fr.app N338 Nq339
      show own_Go p e below _ T339 (mkF m 98 #[.val (.int a), .val (.int b), .val (.ref nb1), .val (.int ((504 : Int32) + ((a >>> ((1 : Int32) &&& 31)) % (3 : Int32)))), .val (.ref (own_ex ((504 : Int32) + ((a >>> ((1 : Int32) &&& 31)) % (3 : Int32))) wD wR wX)), .unset] [(.ref (own_ex ((504 : Int32) + ((a >>> ((1 : Int32) &&& 31)) % (3 : Int32))) wD wR wX))])
      refine own_st (fun t_ k_ => XS.astore X339.here hx rfl (hb hby at_98) rfl rfl (l' := #[.val (.int a), .val (.int b), .val (.ref nb1), .val (.int ((504 : Int32) + ((a >>> ((1 : Int32) &&& 31)) % (3 : Int32)))), .val (.ref (own_ex ((504 : Int32) + ((a >>> ((1 : Int32) &&& 31)) % (3 : Int32))) wD wR wX)), .val (.ref (own_ex ((504 : Int32) + ((a >>> ((1 : Int32) &&& 31)) % (3 : Int32))) wD wR wX))]) rfl k_) ?_
      show own_Go p e below _ T339 (mkF m 100 #[.val (.int a), .val (.int b), .val (.ref nb1), .val (.int ((504 : Int32) + ((a >>> ((1 : Int32) &&& 31)) % (3 : Int32)))), .val (.ref (own_ex ((504 : Int32) + ((a >>> ((1 : Int32) &&& 31)) % (3 : Int32))) wD wR wX)), .val (.ref (own_ex ((504 : Int32) + ((a >>> ((1 : Int32) &&& 31)) % (3 : Int32))) wD wR wX))] [])
      refine own_st (fun t_ k_ => XS.aload X339.here hx rfl (hb hby at_100) rfl rfl k_) ?_
      show own_Go p e below _ T339 (mkF m 102 #[.val (.int a), .val (.int b), .val (.ref nb1), .val (.int ((504 : Int32) + ((a >>> ((1 : Int32) &&& 31)) % (3 : Int32)))), .val (.ref (own_ex ((504 : Int32) + ((a >>> ((1 : Int32) &&& 31)) % (3 : Int32))) wD wR wX)), .val (.ref (own_ex ((504 : Int32) + ((a >>> ((1 : Int32) &&& 31)) % (3 : Int32))) wD wR wX))] [(.ref (own_ex ((504 : Int32) + ((a >>> ((1 : Int32) &&& 31)) % (3 : Int32))) wD wR wX))])
      refine own_st (fun t_ k_ => XS.aload X339.here hx rfl (hb hby at_102) rfl rfl k_) ?_
      show own_Go p e below _ T339 (mkF m 104 #[.val (.int a), .val (.int b), .val (.ref nb1), .val (.int ((504 : Int32) + ((a >>> ((1 : Int32) &&& 31)) % (3 : Int32)))), .val (.ref (own_ex ((504 : Int32) + ((a >>> ((1 : Int32) &&& 31)) % (3 : Int32))) wD wR wX)), .val (.ref (own_ex ((504 : Int32) + ((a >>> ((1 : Int32) &&& 31)) % (3 : Int32))) wD wR wX))] [(.ref (own_ex ((504 : Int32) + ((a >>> ((1 : Int32) &&& 31)) % (3 : Int32))) wD wR wX)), (.ref (own_ex ((504 : Int32) + ((a >>> ((1 : Int32) &&& 31)) % (3 : Int32))) wD wR wX))])
      refine own_st (fun t_ k_ => Jvm.RoadKit.acmp (g := (mkF m 104 #[.val (.int a), .val (.int b), .val (.ref nb1), .val (.int ((504 : Int32) + ((a >>> ((1 : Int32) &&& 31)) % (3 : Int32)))), .val (.ref (own_ex ((504 : Int32) + ((a >>> ((1 : Int32) &&& 31)) % (3 : Int32))) wD wR wX)), .val (.ref (own_ex ((504 : Int32) + ((a >>> ((1 : Int32) &&& 31)) % (3 : Int32))) wD wR wX))] [(.ref (own_ex ((504 : Int32) + ((a >>> ((1 : Int32) &&& 31)) % (3 : Int32))) wD wR wX)), (.ref (own_ex ((504 : Int32) + ((a >>> ((1 : Int32) &&& 31)) % (3 : Int32))) wD wR wX))])) X339 hx rfl rfl rfl (pc0 := 104) (pc' := 107) (same := true) rfl (hb hby at_104) rfl (decide_eq_true rfl) (by decide) (by decide) k_) ?_
      show own_Go p e below _ T339 (mkF m 107 #[.val (.int a), .val (.int b), .val (.ref nb1), .val (.int ((504 : Int32) + ((a >>> ((1 : Int32) &&& 31)) % (3 : Int32)))), .val (.ref (own_ex ((504 : Int32) + ((a >>> ((1 : Int32) &&& 31)) % (3 : Int32))) wD wR wX)), .val (.ref (own_ex ((504 : Int32) + ((a >>> ((1 : Int32) &&& 31)) % (3 : Int32))) wD wR wX))] [])
      refine own_st (fun t_ k_ => XS.iconst X339.here hx rfl (hb hby at_107) k_) ?_
      show own_Go p e below _ T339 (mkF m 108 #[.val (.int a), .val (.int b), .val (.ref nb1), .val (.int ((504 : Int32) + ((a >>> ((1 : Int32) &&& 31)) % (3 : Int32)))), .val (.ref (own_ex ((504 : Int32) + ((a >>> ((1 : Int32) &&& 31)) % (3 : Int32))) wD wR wX)), .val (.ref (own_ex ((504 : Int32) + ((a >>> ((1 : Int32) &&& 31)) % (3 : Int32))) wD wR wX))] [(.int (1 : Int32))])
      refine own_st (fun t_ k_ => XS.goto X339.here hx rfl (pc0 := 108) (pc' := 112) rfl (hb hby at_108) (by decide) (by decide) k_) ?_
      show own_Go p e below _ T339 (mkF m 112 #[.val (.int a), .val (.int b), .val (.ref nb1), .val (.int ((504 : Int32) + ((a >>> ((1 : Int32) &&& 31)) % (3 : Int32)))), .val (.ref (own_ex ((504 : Int32) + ((a >>> ((1 : Int32) &&& 31)) % (3 : Int32))) wD wR wX)), .val (.ref (own_ex ((504 : Int32) + ((a >>> ((1 : Int32) &&& 31)) % (3 : Int32))) wD wR wX))] [(.int (1 : Int32))])
      refine own_retN X339 hx hlk (t := .boolean) Bd.returns (by simp) (hb hby at_112) ?_ (by decide) (by decide)
      show Q0 n0 _ T339.heap _
      rw [hh339]
      exact ⟨rfl, N339⟩
set_option maxRecDepth 65536 in
set_option maxHeartbeats 40000000 in
theorem comes_1 {Post : Tables → Env → Array Value → State → Outcome → State → Prop} (hpost : ∀ tb e args s v u, (limb_1_1.after args s (.returned v) u = true ∧ limb_1_2.after args s (.returned v) u = true ∧ True) → FrameEnd s (.returned v) u (Jvm.fieldLocs frame_1_writes args s ++ Jvm.arrayLocs frame_1_arrays args s ++ Jvm.staticLocs frame_1_statics s) 16 128 → Post tb e args s (.returned v) u) :
    ArmFor flags0 classFile x code maxLocals ret World_1 tables_1 room_1 Calls_1 rest_1 Pre_1 Post := by
  intro l hfl _ _ p e ha hc hk s m args below hf hA hF happ hP
  obtain ⟨hcalls, hrest, hpre⟩ := hP
  obtain ⟨-, -, -, hnamed, -, -, -, hat⟩ := (Spec.applies_iff hf).mp happ
  obtain ⟨hg, hn⟩ := and_e (Cond.before_iff.mp (show (Jvm.Cond.and given_1 narrow_1).before args s = true from hpre))
  obtain ⟨g0, hg0⟩ := and_e hg
  obtain ⟨g1, hg1⟩ := and_e hg0
  obtain ⟨w0, w1, rfl⟩ : ∃ w0 w1 : Value, args = #[w0, w1] := by
    have hs : args.size = 2 := by simpa [Cond.value, given_1] using g0
    obtain ⟨L⟩ := args
    match L, hs with
    | [w0, w1], _ => exact ⟨w0, w1, rfl⟩
  have hw := fun d (hd : d ∈ tables_1) => atoms_spec (ws := Jvm.Cond.code x code maxLocals ret :: tables_1) hat d (List.mem_cons_of_mem _ hd)
  have hfit : Fit s := fun {y c} hc i hi => by
    obtain ⟨ha, rfl⟩ := Array.getElem?_eq_some_iff.mp hc
    have q := List.all_eq_true.mp ((Array.all_eq_true_iff_forall_mem.mp hF) _ (Array.getElem_mem ha)) i (List.mem_range.mpr hi)
    simpa [Array.getElem?_eq_getElem hi] using q
  obtain ⟨i0, ei0⟩ := is_v g1
  obtain rfl : w0 = (.int i0) := Option.some.inj ei0
  obtain ⟨i1, ei1⟩ := is_v hg1
  obtain rfl : w1 = (.int i1) := Option.some.inj ei1
  obtain ⟨n0, hn0⟩ := and_e hn
  obtain ⟨a0, ev0⟩ := exa_v n0
  have Xa0 := Exa.start ev0 n0
  have Sa0 := Sta.start ev0 (Or.inr ⟨(hw _ (List.mem_of_getElem? (i := 6) rfl)), (hw _ (List.mem_of_getElem? (i := 7) rfl))⟩)
  obtain ⟨n1, hn1⟩ := and_e hn0
  obtain ⟨a1, ev1⟩ := exa_v n1
  have Xa1 := Exa.start ev1 n1
  have Sa1 := Sta.start ev1 (Or.inr ⟨(hw _ (List.mem_of_getElem? (i := 6) rfl)), (hw _ (List.mem_of_getElem? (i := 14) rfl))⟩)
  obtain ⟨a2, ev2⟩ := exa_v hn1
  have Xa2 := Exa.start ev2 hn1
  have Sa2 := Sta.start ev2 (Or.inr ⟨(hw _ (List.mem_of_getElem? (i := 6) rfl)), (hw _ (List.mem_of_getElem? (i := 17) rfl))⟩)
  obtain ⟨n, o, h1, h2, h3, _, L, rfl, ⟨rfl, N⟩, hq⟩ := rm0 l s _ hw tables_1 i0 i1 a1 a2 a0 s.heap s.heap.size (Nat.le_refl _) Sa1 Sa2 Sa0 p e ha hc hk s m _ below hf ((Spec.applies_iff_loose hf).mp happ).1 ⟨rfl, State.Warmed39.refl s, rfl⟩ trivial
  refine ⟨n, _, h1, h2, h3, hpost _ _ _ _ _ _ ⟨Cond.after_iff.mpr rfl, Cond.after_iff.mpr (eq_i res_at (Term.int_eval (1)) rfl), trivial⟩ ⟨hq.1, hq.2.1, (hq.2.2.sift fun y hy => Or.inr (N y hy)).mono (by decide) (by decide)⟩⟩
theorem main_1_1 : Claimed_1_1 := comes_1 fun _ _ _ _ _ _ h hF => ⟨h.1, hF⟩
theorem main_1_2 : Claimed_1_2 := comes_1 fun _ _ _ _ _ _ h hF => ⟨h.2.1, hF⟩
end Jvm.Pilot.@@N@@
namespace Jvm.Pilot.@@N@@
open Jvm Jvm.ClassFile Sem Op Lib Jvm.Free Jvm.Stand Jvm.Pilot.@@N@@.Jvm.D
/-! MADE BY PROGRAM (witnessworld.py) out of the Statement's table words and the real class files: 12 classes; the members and pool entries that the words name. The judged class is class 1, her method 1. -/
namespace start1
open Jvm.ClassFile
def u (s : String) : CpInfo := .utf8 (stringToUtf16 s)
/-- a pool by its gaps: so many unusable entries, then the entry; so many at the end -/
def gap : Nat → List CpInfo → List CpInfo
  | 0, r => r
  | n + 1, r => .unusable :: gap n r
def poolList (es : List (Nat × CpInfo)) (last : Nat) : List CpInfo := es.foldr (fun e r => gap e.1 (e.2 :: r)) (gap last [])
def pool (es : List (Nat × CpInfo)) (last : Nat) : Array CpInfo := ⟨poolList es last⟩
def fileOf (pool : Array CpInfo) (this : Nat) (attrs : Array Attribute := #[]) (ms : Array MethodInfo := #[]) (fl : Nat := 33) (sup : Nat := 0) (ifs : Array Nat := #[]) (fds : Array FieldInfo := #[]) : ClassFile where
  minorVersion := 0
  majorVersion := 65
  constantPool := pool
  accessFlags := fl
  thisClass := this
  superClass := sup
  interfaces := ifs
  fields := fds
  methods := ms
  attributes := attrs
def plain (name : String) (sup : Option ClassId) : Class where
  name := name
  kind := .ordinary
  loader := none
  accessFlags := 33
  super := sup
  interfaces := #[]
  cf := none
  fields := #[]
  methods := #[]
  instanceTypes := #[]
  staticTypes := #[]
  resolved := #[]
  callSites := []
  init := .initialized
  statics := none
  mirror := none

def pool0 : Array CpInfo := pool [(5, u "<init>"), (0, u "()V"), (1, .class_ 10), (1, u "java/lang/Object")] 113

def k0m0 : Method := { name := "<init>", desc := "()V", sig := { parameters := [], returnType := none }, accessFlags := 1, code := none }
/-- java/lang/Object -/
def k0 : Class := { plain "java/lang/Object" none with
  accessFlags := 33
  interfaces := #[]
  cf := some (fileOf pool0 8 #[] #[{ accessFlags := 1, nameIndex := 5, descriptorIndex := 6, attributes := #[] }] 33 0 #[] #[])
  fields := #[]
  methods := #[k0m0]
  instanceTypes := #[]
  staticTypes := #[]
  resolved := Array.replicate 124 none
  statics := none }

def pool1 : Array CpInfo := pool [(2, .class_ 4), (1, u "java/lang/Object"), (0, u "<init>"), (0, u "()V"), (0, .integer 2147483647), (0, .methodref 9 10), (0, .class_ 11), (0, .nameAndType 12 13), (0, u "com/example/gentle_nudge/gentlenudge/protocol/OutcomeOfStatusPinLaw"), (0, u "expectedOf"), (0, u "(I)Lcom/example/gentle_nudge/gentlenudge/protocol/Outcome;"), (0, .methodref 15 16), (0, .class_ 17), (0, .nameAndType 18 13), (0, u "com/example/gentle_nudge/gentlenudge/protocol/Outcome"), (0, u "ofStatus"), (0, .fieldref 15 20), (0, .nameAndType 21 22), (0, u "DELIVERED"), (0, u "Lcom/example/gentle_nudge/gentlenudge/protocol/Outcome;"), (0, .fieldref 15 24), (0, .nameAndType 25 22), (0, u "RETRY"), (0, .fieldref 15 27), (0, .nameAndType 28 22), (0, u "DROPPED"), (2, u "law"), (0, u "(II)Z")] 5

def k1m0 : Method := { name := "<init>", desc := "()V", sig := { parameters := [], returnType := none }, accessFlags := 1, code := none }
def k1c1 : Code := { maxStack := 4, maxLocals := 6, code := code, exceptionTable := #[], attributes := #[] }
def k1m1 : Method := { name := "law", desc := "(II)Z", sig := { parameters := [.int, .int], returnType := some .boolean }, accessFlags := 9, code := some k1c1 }
def k1c2 : Code := { maxStack := 2, maxLocals := 1, code := method_3_code, exceptionTable := #[], attributes := #[] }
def k1m2 : Method := { name := "expectedOf", desc := "(I)Lcom/example/gentle_nudge/gentlenudge/protocol/Outcome;", sig := { parameters := [.int], returnType := some (.object "com/example/gentle_nudge/gentlenudge/protocol/Outcome") }, accessFlags := 10, code := some k1c2 }
/-- com/example/gentle_nudge/gentlenudge/protocol/OutcomeOfStatusPinLaw -/
def k1 : Class := { plain "com/example/gentle_nudge/gentlenudge/protocol/OutcomeOfStatusPinLaw" (some 0) with
  accessFlags := 49
  interfaces := #[]
  cf := some (fileOf pool1 9 #[] #[{ accessFlags := 1, nameIndex := 5, descriptorIndex := 6, attributes := #[] }, { accessFlags := 9, nameIndex := 31, descriptorIndex := 32, attributes := #[] }, { accessFlags := 10, nameIndex := 12, descriptorIndex := 13, attributes := #[] }] 49 2 #[] #[])
  fields := #[]
  methods := #[k1m0, k1m1, k1m2]
  instanceTypes := #[]
  staticTypes := #[]
  resolved := Array.replicate 38 none
  statics := none }

def pool2 : Array CpInfo := pool [(1, .class_ 2), (0, u "java/lang/constant/Constable"), (0, .class_ 4), (0, u "java/lang/Object")] 6

/-- java/lang/constant/Constable -/
def k2 : Class := { plain "java/lang/constant/Constable" (some 0) with
  accessFlags := 1537
  interfaces := #[]
  cf := some (fileOf pool2 1 #[] #[] 1537 3 #[] #[])
  fields := #[]
  methods := #[]
  instanceTypes := #[]
  staticTypes := #[]
  resolved := Array.replicate 11 none
  statics := none }

def pool3 : Array CpInfo := pool [(1, .class_ 2), (0, u "java/lang/Comparable"), (0, .class_ 4), (0, u "java/lang/Object")] 7

/-- java/lang/Comparable -/
def k3 : Class := { plain "java/lang/Comparable" (some 0) with
  accessFlags := 1537
  interfaces := #[]
  cf := some (fileOf pool3 1 #[] #[] 1537 3 #[] #[])
  fields := #[]
  methods := #[]
  instanceTypes := #[]
  staticTypes := #[]
  resolved := Array.replicate 12 none
  statics := none }

def pool4 : Array CpInfo := pool [(1, .class_ 2), (0, u "java/io/Serializable"), (0, .class_ 4), (0, u "java/lang/Object")] 2

/-- java/io/Serializable -/
def k4 : Class := { plain "java/io/Serializable" (some 0) with
  accessFlags := 1537
  interfaces := #[]
  cf := some (fileOf pool4 1 #[] #[] 1537 3 #[] #[])
  fields := #[]
  methods := #[]
  instanceTypes := #[]
  staticTypes := #[]
  resolved := Array.replicate 7 none
  statics := none }

def pool5 : Array CpInfo := pool [(2, .class_ 4), (1, u "java/lang/Enum"), (0, u "name"), (0, u "Ljava/lang/String;"), (2, u "ordinal"), (0, u "I"), (1, .class_ 14), (1, u "java/lang/Object"), (4, u "hash"), (86, .class_ 108), (1, u "java/lang/Enum$EnumDesc"), (2, .class_ 112), (0, u "java/lang/constant/Constable"), (0, .class_ 114), (0, u "java/lang/Comparable"), (0, .class_ 116), (0, u "java/io/Serializable")] 87

/-- java/lang/Enum -/
def k5 : Class := { plain "java/lang/Enum" (some 0) with
  accessFlags := 1057
  interfaces := #[2, 3, 4]
  cf := some (fileOf pool5 2 #[.nestMembers #[106]] #[] 1057 12 #[111, 113, 115] #[{ accessFlags := 18, nameIndex := 5, descriptorIndex := 6, attributes := #[] }, { accessFlags := 18, nameIndex := 9, descriptorIndex := 10, attributes := #[] }, { accessFlags := 2, nameIndex := 19, descriptorIndex := 10, attributes := #[] }])
  fields := #[{ name := "name", type := (.object "java/lang/String"), accessFlags := 18, slot := 0, constantValue := 0 }, { name := "ordinal", type := .int, accessFlags := 18, slot := 1, constantValue := 0 }, { name := "hash", type := .int, accessFlags := 2, slot := 2, constantValue := 0 }]
  methods := #[]
  instanceTypes := #[(.object "java/lang/String"), .int, .int]
  staticTypes := #[]
  resolved := Array.replicate 204 none
  statics := none }

def pool6 : Array CpInfo := pool [(1, .class_ 2), (0, u "com/example/gentle_nudge/gentlenudge/protocol/Outcome"), (0, .fieldref 1 4), (0, .nameAndType 5 6), (0, u "DELIVERED"), (0, u "Lcom/example/gentle_nudge/gentlenudge/protocol/Outcome;"), (0, .fieldref 1 8), (0, .nameAndType 9 6), (0, u "RETRY"), (0, .fieldref 1 11), (0, .nameAndType 12 6), (0, u "DROPPED"), (2, u "CANCELLED"), (2, u "$VALUES"), (0, u "[Lcom/example/gentle_nudge/gentlenudge/protocol/Outcome;"), (6, .class_ 28), (1, u "java/lang/Enum"), (22, u "ofStatus"), (0, u "(I)Lcom/example/gentle_nudge/gentlenudge/protocol/Outcome;")] 5

def k6c0 : Code := { maxStack := 1, maxLocals := 1, code := prog_4_method_4_code, exceptionTable := #[], attributes := #[] }
def k6m0 : Method := { name := "ofStatus", desc := "(I)Lcom/example/gentle_nudge/gentlenudge/protocol/Outcome;", sig := { parameters := [.int], returnType := some (.object "com/example/gentle_nudge/gentlenudge/protocol/Outcome") }, accessFlags := 9, code := some k6c0 }
/-- com/example/gentle_nudge/gentlenudge/protocol/Outcome -/
def k6 : Class := { plain "com/example/gentle_nudge/gentlenudge/protocol/Outcome" (some 5) with
  accessFlags := 16433
  interfaces := #[]
  cf := some (fileOf pool6 1 #[] #[{ accessFlags := 9, nameIndex := 51, descriptorIndex := 52, attributes := #[] }] 16433 26 #[] #[{ accessFlags := 16409, nameIndex := 5, descriptorIndex := 6, attributes := #[] }, { accessFlags := 16409, nameIndex := 9, descriptorIndex := 6, attributes := #[] }, { accessFlags := 16409, nameIndex := 12, descriptorIndex := 6, attributes := #[] }, { accessFlags := 16409, nameIndex := 15, descriptorIndex := 6, attributes := #[] }, { accessFlags := 4122, nameIndex := 18, descriptorIndex := 19, attributes := #[] }])
  fields := #[{ name := "DELIVERED", type := (.object "com/example/gentle_nudge/gentlenudge/protocol/Outcome"), accessFlags := 16409, slot := 0, constantValue := 0 }, { name := "RETRY", type := (.object "com/example/gentle_nudge/gentlenudge/protocol/Outcome"), accessFlags := 16409, slot := 1, constantValue := 0 }, { name := "DROPPED", type := (.object "com/example/gentle_nudge/gentlenudge/protocol/Outcome"), accessFlags := 16409, slot := 2, constantValue := 0 }, { name := "CANCELLED", type := (.object "com/example/gentle_nudge/gentlenudge/protocol/Outcome"), accessFlags := 16409, slot := 3, constantValue := 0 }, { name := "$VALUES", type := (.array (.object "com/example/gentle_nudge/gentlenudge/protocol/Outcome")), accessFlags := 4122, slot := 4, constantValue := 0 }]
  methods := #[k6m0]
  instanceTypes := #[(.object "java/lang/String"), .int, .int]
  staticTypes := #[(.object "com/example/gentle_nudge/gentlenudge/protocol/Outcome"), (.object "com/example/gentle_nudge/gentlenudge/protocol/Outcome"), (.object "com/example/gentle_nudge/gentlenudge/protocol/Outcome"), (.object "com/example/gentle_nudge/gentlenudge/protocol/Outcome"), (.array (.object "com/example/gentle_nudge/gentlenudge/protocol/Outcome"))]
  resolved := Array.replicate 58 none
  statics := some 0 }

def pool7 : Array CpInfo := pool [(1, u "java/lang/Cloneable"), (0, .class_ 1), (0, u "java/lang/Object"), (0, .class_ 3)] 3

/-- java/lang/Cloneable -/
def k7 : Class := { plain "java/lang/Cloneable" (some 0) with
  accessFlags := 1537
  interfaces := #[]
  cf := some (fileOf pool7 2 #[] #[] 1537 4 #[] #[])
  fields := #[]
  methods := #[]
  instanceTypes := #[]
  staticTypes := #[]
  resolved := Array.replicate 8 none
  statics := none }

/-- the primitive byte -/
def k8 : Class := { plain "byte" none with kind := .primitive 'B', accessFlags := 0x411 }
/-- [B -/
def k9 : Class := { plain "[B" (some 0) with kind := .array 8 .byte, interfaces := #[7, 4], accessFlags := 1041 }

/-- the primitive int -/
def k10 : Class := { plain "int" none with kind := .primitive 'I', accessFlags := 0x411 }
/-- [I -/
def k11 : Class := { plain "[I" (some 0) with kind := .array 10 .int, interfaces := #[7, 4], accessFlags := 1041 }

def heap : Heap := #[{ cls := 6, slots := #[.ref 1, .ref 2, .ref 3, .null, .null], vm := .statics 6 },
  { cls := 6, slots := #[.null, .int 0, .int 0], vm := .none },
  { cls := 6, slots := #[.null, .int 1, .int 0], vm := .none },
  { cls := 6, slots := #[.null, .int 2, .int 0], vm := .none }]
def classes : Array Class := #[k0, k1, k2, k3, k4, k5, k6, k7, k8, k9, k10, k11]
def interned : List (Array UInt16 × Addr) := []
def slotsUsed : Nat := 14
def theMethod : MethodId := ⟨1, 1⟩
def args0 : Array Value := #[.int 5, .int 3]
def aboutOver (below : List Frame) : State where
  vm := { classes := classes, interned := interned.toArray }
  heap := heap
  slotsUsed := slotsUsed
  threads := #[{ frames := .invoking theMethod args0 :: below }]
def below0 : List Frame := [.native { method := ⟨0, 0⟩, args := #[] }]
def about1 : State := aboutOver below0
def p0 : Program := .bare "" "" ""
def e0 : Env := launch0.env 0 0 0
theorem w_frames : about1.frames = Frame.invoking theMethod args0 :: below0 := rfl
set_option maxRecDepth 65536 in
theorem w_args : argsFit about1.vm theMethod args0 = true := by decide +kernel
set_option maxRecDepth 65536 in
theorem w_heap : heapFits about1 = true := by decide +kernel
set_option maxRecDepth 65536 in
theorem w_runnable : about1.curStatus? = some .runnable := by decide +kernel
set_option maxRecDepth 65536 in
theorem w_alone : about1.alone = true := by decide +kernel
set_option maxRecDepth 65536 in
theorem w_named : about1.methodNamed? x = some theMethod := by decide +kernel
set_option maxRecDepth 65536 in
theorem w_hears : about1.hears theMethod below0 = true := by decide +kernel
set_option maxRecDepth 65536 in
theorem w_ripe : about1.ripe theMethod args0 below0 = true := by decide +kernel
theorem w_running : about1.status = .running := rfl
set_option maxRecDepth 65536 in
theorem w_room : about1.hasRoom e0.platform room_1 = true :=
  launch0.hasRoom_least _ room_1 (by decide +kernel) (by decide +kernel) (by decide +kernel) (by decide +kernel) (by decide +kernel) (by decide +kernel)
theorem allAtoms_all (ts : List Jvm.Cond) (a : Array Jvm.Value) (st : Jvm.State) : (allAtoms ts).before a st = ts.all (fun c => c.before a st) := by
  induction ts with
  | nil => rfl
  | cons c t ih =>
    show (Jvm.Cond.and c (allAtoms t)).before a st = _
    rw [Jvm.Cond.before_and, ih, List.all_cons]
def words1 : List Jvm.Cond := Jvm.Cond.code x code maxLocals ret :: tables_1
/-- a 'code' word, met by the world's own term for the bytes: nothing is compared byte by byte -/
theorem code_word {y : MethodName} {bytes : ByteArray} {mx : Nat} {rt : Option FieldType} {a : Array Value} {s : State} {m : MethodId} {meth : Method} {c : Code} (h1 : s.methodNamed? y = some m) (h2 : s.vm.method? m = some meth) (h3 : meth.code = some c) (h4 : c.code = bytes)
    (h5 : (c.maxLocals == mx && c.exceptionTable.isEmpty && decide (c.maxStack ≤ mostOperands) && decide (meth.sig.returnType = rt) && !meth.locks && decide (parseMethodDescriptor y.desc = some meth.sig)) = true) : (Jvm.Cond.code y bytes mx rt).before a s = true := by
  simp only [Bool.and_eq_true, beq_iff_eq, Bool.not_eq_true', decide_eq_true_eq] at h5
  obtain ⟨⟨⟨⟨⟨g1, g2⟩, g3⟩, g4⟩, g5⟩, g6⟩ := h5
  simp [Cond.before, Cond.holds, Cond.value, h1, h2, h3, h4, g1, g2, g3, g4, g5, g6]
def isCode : Jvm.Cond → Bool
  | .code _ _ _ _ => true
  | _ => false
theorem all_split {L : List Jvm.Cond} {P : Jvm.Cond → Bool} (h1 : L.all (fun c => isCode c || P c) = true) (h2 : ∀ c ∈ L.filter isCode, P c = true) : L.all P = true := by
  refine List.all_eq_true.mpr fun c hc => ?_
  have h := List.all_eq_true.mp h1 c hc
  rcases Bool.eq_false_or_eq_true (isCode c) with hi | hi
  · exact h2 c (List.mem_filter.mpr ⟨hc, hi⟩)
  · simpa [hi] using h
set_option maxRecDepth 65536 in
theorem w_c0 : (Jvm.Cond.code x code maxLocals ret).before args0 about1 = true := code_word (m := ⟨1, 1⟩) (meth := k1m1) (c := k1c1) (by decide +kernel) rfl rfl rfl (by decide +kernel)
set_option maxRecDepth 65536 in
theorem w_c1 : (Jvm.Cond.code ({ cls := "com/example/gentle_nudge/gentlenudge/protocol/OutcomeOfStatusPinLaw", name := "expectedOf", desc := "(I)Lcom/example/gentle_nudge/gentlenudge/protocol/Outcome;" } : Jvm.MethodName) method_3_code (1 : Nat) (Option.some (Jvm.ClassFile.FieldType.object "com/example/gentle_nudge/gentlenudge/protocol/Outcome"))).before args0 about1 = true := code_word (m := ⟨1, 2⟩) (meth := k1m2) (c := k1c2) (by decide +kernel) rfl rfl rfl (by decide +kernel)
set_option maxRecDepth 65536 in
theorem w_c2 : (Jvm.Cond.code ({ cls := "com/example/gentle_nudge/gentlenudge/protocol/Outcome", name := "ofStatus", desc := "(I)Lcom/example/gentle_nudge/gentlenudge/protocol/Outcome;" } : Jvm.MethodName) prog_4_method_4_code (1 : Nat) (Option.some (Jvm.ClassFile.FieldType.object "com/example/gentle_nudge/gentlenudge/protocol/Outcome"))).before args0 about1 = true := code_word (m := ⟨6, 0⟩) (meth := k6m0) (c := k6c0) (by decide +kernel) rfl rfl rfl (by decide +kernel)
def codes1 : List Jvm.Cond := [Jvm.Cond.code x code maxLocals ret, Jvm.Cond.code ({ cls := "com/example/gentle_nudge/gentlenudge/protocol/OutcomeOfStatusPinLaw", name := "expectedOf", desc := "(I)Lcom/example/gentle_nudge/gentlenudge/protocol/Outcome;" } : Jvm.MethodName) method_3_code (1 : Nat) (Option.some (Jvm.ClassFile.FieldType.object "com/example/gentle_nudge/gentlenudge/protocol/Outcome")), Jvm.Cond.code ({ cls := "com/example/gentle_nudge/gentlenudge/protocol/Outcome", name := "ofStatus", desc := "(I)Lcom/example/gentle_nudge/gentlenudge/protocol/Outcome;" } : Jvm.MethodName) prog_4_method_4_code (1 : Nat) (Option.some (Jvm.ClassFile.FieldType.object "com/example/gentle_nudge/gentlenudge/protocol/Outcome"))]
set_option maxRecDepth 65536 in
theorem codes_eq : words1.filter isCode = codes1 := rfl
theorem w_codes : ∀ c ∈ words1.filter isCode, c.before args0 about1 = true := by
  rw [codes_eq]
  intro c hc
  simp only [codes1, List.mem_cons, List.not_mem_nil, or_false] at hc
  rcases hc with rfl | rfl | rfl
  · exact w_c0
  · exact w_c1
  · exact w_c2
set_option maxRecDepth 65536 in
theorem w_t1 : words1.all (fun c => isCode c || c.before args0 about1) = true := by decide +kernel
theorem w_tables : (allAtoms (Jvm.Cond.code x code maxLocals ret :: tables_1)).before args0 about1 = true := by
  rw [allAtoms_all]
  show words1.all (fun c => c.before args0 about1) = true
  refine all_split ?_ w_codes
  rw [w_t1]
set_option maxRecDepth 65536 in
theorem w_case : (Jvm.Cond.and given_1 narrow_1).before args0 about1 = true := by decide +kernel
theorem w_applies : (headSpec (Jvm.Cond.code x code maxLocals ret :: tables_1) room_1).applies x e0.platform about1 = true :=
  (Spec.applies_iff w_frames).mpr ⟨w_running, w_runnable, w_alone, w_named, w_hears, w_ripe, w_room, w_tables⟩
theorem atStart : AtStart classFile x code maxLocals ret World_1 tables_1 room_1 Calls_1 rest_1 Pre_1 launch0 p0 e0 about1 theMethod args0 below0 :=
  ⟨lists_1, trivial, launch0.admits_env _ _ _, launch0.least_env, fairChoices_fair.cas, fairChoices_fair.clock, w_frames, w_args, w_heap, w_applies, trivial, trivial, w_case⟩
end start1
theorem witness_1 : WitnessClaimed_1 := ⟨start1.p0, start1.e0, start1.about1, start1.theMethod, start1.args0, start1.below0, start1.atStart⟩
end Jvm.Pilot.@@N@@
