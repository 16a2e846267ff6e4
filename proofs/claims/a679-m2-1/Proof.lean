import JvmDerived
import JvmDerived.Pilot.@@N@@Statement
import JvmDerived.Pilot.@@N@@Code
set_option linter.unusedVariables false
set_option linter.unusedSimpArgs false
namespace Jvm.Pilot.@@N@@
open Jvm Jvm.ClassFile Sem Op Lib Jvm.Free Jvm.Stand Jvm.LawKit Jvm.RoadKit Bundle Jvm.Pilot.@@N@@.Jvm.D
/-! A walk by continuations: own_Go says that from here the body runs to an end that P allows. -/
def own_Go (p : Program) (e : Env) (below : List Frame) (P : Outcome → State → Prop) (T : State) (g : JFrame) : Prop :=
  ∃ s₂ o, Steps p.tables e below (T.setTop g) s₂ ∧ s₂.status = .running ∧ Ended s₂ below o ∧ P o s₂
abbrev own_End (s : State) (Q : Option Value → Heap → List Loc → Prop) (C S : Nat) : Outcome → State → Prop := fun o s₂ => ∃ v L, o = .returned v ∧ Q v s₂.heap L ∧ FrameEnd s o s₂ L C S
theorem own_pc {m : MethodId} {pc : Nat} {Ls : Array Slot} {st : List Value} {off : Int} (h : 0 ≤ (pc : Int) + off) : 0 ≤ ((mkF m pc Ls st).pc : Int) + off := h
theorem own_cut {J G : Prop} (h : J) (k : J → G) : G := k h
section Own
variable {p : Program} {l : Launch} {e : Env} {R : Room} {s : State} {m : MethodId} {args : Array Value} {below : List Frame} {meth : Method} {c : Code} {T T' : State} {locs : List Loc} {cells slots : Nat} {P : Outcome → State → Prop} {g g' : JFrame} {Q : Option Value → Heap → List Loc → Prop} {C S : Nat}
theorem own_st (h : ∀ t, Steps p.tables e below (T'.setTop g') t → Steps p.tables e below (T.setTop g) t) (k : own_Go p e below P T' g') : own_Go p e below P T g := by
  obtain ⟨s₂, o, h1, r⟩ := k
  exact ⟨s₂, o, h _ h1, r⟩
theorem own_entry (q : g = g') (k : own_Go p e below P T g') : ∃ s₂ o, Steps p.tables e below (T.setTop g) s₂ ∧ s₂.status = .running ∧ Ended s₂ below o ∧ P o s₂ := by
  subst q
  exact k
theorem own_join {α : Type} {F : α → Prop} {g' : α → JFrame} {T' : State} (k : ∀ b, F b → own_Go p e below P T' (g' b)) (j : (∀ b, F b → own_Go p e below P T' (g' b)) → own_Go p e below P T g) : own_Go p e below P T g := j k
theorem own_joinT {S0 : State} {h : Heap} {α : Type} {F : α → Prop} {g' : α → JFrame} (X : Stand p l e R S0 m args below meth c T locs cells slots) (eT : T.heap = h)
    (k : ∀ b T', F b → Stand p l e R S0 m args below meth c T' locs cells slots → T'.heap = h → own_Go p e below P T' (g' b)) (j : (∀ b T', F b → Stand p l e R S0 m args below meth c T' locs cells slots → T'.heap = h → own_Go p e below P T' (g' b)) → own_Go p e below P T g) : own_Go p e below P T g := j k
theorem own_leave (X : Stand p l e R s m args below meth c T locs cells slots) (hlk : meth.locks = false) {v : Option Value} (hv : meth.sig.returnType = none → v = none)
    (k : ∀ fs, (∀ (f : JFrame) (acts : List Action), f.method = m → f.locked = none → f.entered = [] → (doReturn e (T.setTop f) acts v).1 = T.setFrames fs) → Steps p.tables e below (T.setTop g) (T.setFrames fs))
    (hQ : Q v T.heap locs) (hC : cells ≤ C) (hS : slots ≤ S) : own_Go p e below (own_End s Q C S) T g := by
  obtain ⟨fs, hr, hrun, hended, hW, hsame⟩ := X.leave hv hlk
  exact ⟨_, _, k fs hr, hrun, hended, _, _, rfl, hQ, ⟨_, rfl⟩, hW, hsame.mono hC hS⟩
theorem own_retN (X : Stand p l e R s m args below meth c T locs cells slots) (hx : p.tables.exec = Jvm.exec) (hlk : meth.locks = false) {pc : Nat} {Ls : Array Slot} {z : Int32} {t : FieldType} {rest : List Value} (hret : meth.sig.returnType = some t) (ht : t = .boolean ∨ t = .byte ∨ t = .char ∨ t = .short)
    (hd : decode c.code pc = .ok (.ireturn, 1)) (hQ : Q (some (.int (nar t z))) T.heap locs) (hC : cells ≤ C) (hS : slots ≤ S) : own_Go p e below (own_End s Q C S) T (mkF m pc Ls (.int z :: rest)) :=
  own_leave X hlk (fun h => by rw [hret] at h; cases h) (fun fs hr => retN X hx hret ht hd hr) hQ hC hS
theorem own_retI (X : Stand p l e R s m args below meth c T locs cells slots) (hx : p.tables.exec = Jvm.exec) (hlk : meth.locks = false) {pc : Nat} {Ls : Array Slot} {z : Int32} {rest : List Value} (hret : meth.sig.returnType = some .int)
    (hd : decode c.code pc = .ok (.ireturn, 1)) (hQ : Q (some (.int z)) T.heap locs) (hC : cells ≤ C) (hS : slots ≤ S) : own_Go p e below (own_End s Q C S) T (mkF m pc Ls (.int z :: rest)) :=
  own_leave X hlk (fun h => by rw [hret] at h; cases h) (fun fs hr => retOut X hx hret rfl (Or.inl ⟨rfl, Or.inl rfl, z, rfl⟩) hd hr) hQ hC hS
theorem own_retJ (X : Stand p l e R s m args below meth c T locs cells slots) (hx : p.tables.exec = Jvm.exec) (hlk : meth.locks = false) {pc : Nat} {Ls : Array Slot} {z : Int64} {rest : List Value} (hret : meth.sig.returnType = some .long)
    (hd : decode c.code pc = .ok (.lreturn, 1)) (hQ : Q (some (.long z)) T.heap locs) (hC : cells ≤ C) (hS : slots ≤ S) : own_Go p e below (own_End s Q C S) T (mkF m pc Ls (.long z :: rest)) :=
  own_leave X hlk (fun h => by rw [hret] at h; cases h) (fun fs hr => retOut X hx hret rfl (Or.inr (Or.inl ⟨rfl, rfl, z, rfl⟩)) hd hr) hQ hC hS
theorem own_narrow_ref {t : FieldType} {w : Value} (ht : t.isReference = true) : narrow t w = w := by cases t <;> first | rfl | cases ht
theorem own_retA (X : Stand p l e R s m args below meth c T locs cells slots) (hx : p.tables.exec = Jvm.exec) (hlk : meth.locks = false) {pc : Nat} {Ls : Array Slot} {w : Value} {t : FieldType} {rest : List Value} (hret : meth.sig.returnType = some t) (ht : t.isReference = true) (hw : w.isRef = true)
    (hd : decode c.code pc = .ok (.areturn, 1)) (hQ : Q (some w) T.heap locs) (hC : cells ≤ C) (hS : slots ≤ S) : own_Go p e below (own_End s Q C S) T (mkF m pc Ls (w :: rest)) :=
  own_leave X hlk (fun h => by rw [hret] at h; cases h) (fun fs hr => retOut X hx hret (own_narrow_ref ht) (Or.inr (Or.inr (Or.inr (Or.inr ⟨rfl, ht, hw⟩)))) hd hr) hQ hC hS
theorem own_ret0 (X : Stand p l e R s m args below meth c T locs cells slots) (hx : p.tables.exec = Jvm.exec) (hlk : meth.locks = false) {pc : Nat} {Ls : Array Slot} (hret : meth.sig.returnType = none)
    (hd : decode c.code pc = .ok (.return_, 1)) (hQ : Q none T.heap locs) (hC : cells ≤ C) (hS : slots ≤ S) : own_Go p e below (own_End s Q C S) T (mkF m pc Ls []) :=
  own_leave X hlk (fun _ => rfl) (fun fs hr => X.returnOut hx hret hd hr) hQ hC hS
theorem own_callS (X : Stand p l e R s m args below meth c T locs cells slots) (hx : p.tables.exec = Jvm.exec) {own : String} {index : Nat} {y : MethodName} {bytes : ByteArray} {maxL : Nat} {ret : Option FieldType}
    (hown : s.vm.findClass own = some m.cls) (hlink : (Cond.methodLink own index y).before args s = true) (hstat : (Cond.static y).before args s = true) (hinit : (Cond.initialized y.cls).before args s = true)
    (hcode : (Cond.code y bytes maxL ret).before args s = true) (hy : y.cls ≠ "java/lang/invoke/MethodHandle" ∧ y.cls ≠ "java/lang/invoke/VarHandle")
    {W rc rs : Nat} {as' : Array Value} {h : Heap} {Qc : Option Value → Heap → List Loc → Prop}
    (hK : Back l R p e below s args y 3 W (fun A a => a = as' ∧ A.U.heap = h ∧ A.cells + rc ≤ R.cells ∧ A.slots + rs ≤ R.slots) (fun A _ v B => ∃ L, Qc v B.U.heap L ∧ B.locs = A.locs ++ L ∧ B.cells = A.cells + rc ∧ B.slots = A.slots + rs))
    (hg : g.method = m) (hsize : g.locals.size = c.maxLocals) {argsL rest : List Value} (hlen : ∀ sig, parseMethodDescriptor y.desc = some sig → argsL.length = sig.parameters.length)
    (hstack : g.stack = argsL.reverse ++ rest) (hW : 2 * g.monitorRoom + (rest.map fun v => v.category).sum ≤ W) (hdg : decode c.code g.pc = .ok (.invokestatic index, 3))
    (ha : argsL.toArray = as') (eT : T.heap = h) (hc : cells + rc ≤ R.cells) (hs : slots + rs ≤ R.slots)
    (k : ∀ v T' L, Stand p l e R s m args below meth c T' (locs ++ L) (cells + rc) (slots + rs) → Qc v T'.heap L → own_Go p e below P T' { g with pc := g.pc + 3, stack := v.toList ++ rest }) : own_Go p e below P T g := by
  obtain ⟨v, vm₁, ⟨T', L', k', n'⟩, -, X', ⟨L, hQ, l1, y1, z1⟩, st⟩ := Jvm.LawKit.callS X hx hown hlink hstat hinit hcode hy hK hg hsize hlen hstack hW hdg (fun _ _ => ⟨ha, eT, hc, hs⟩)
  dsimp only [Pt.U, Pt.locs, Pt.cells, Pt.slots] at X' l1 y1 z1 st hQ
  subst l1 y1 z1
  exact own_st st (k v T' L X' hQ)
theorem own_callN (X : Stand p l e R s m args below meth c T locs cells slots) (hx : p.tables.exec = Jvm.exec) {own : String} {index : Nat} {y : MethodName} {bytes : ByteArray} {maxL : Nat} (hy1 : y.name = "<init>")
    (hown : s.vm.findClass own = some m.cls) (hlink : (Cond.methodLink own index y).before args s = true) (hinst : (Cond.instanceMethod y).before args s = true)
    (hcode : (Cond.code y bytes maxL none).before args s = true) (hy : y.cls ≠ "java/lang/invoke/MethodHandle" ∧ y.cls ≠ "java/lang/invoke/VarHandle")
    {W rc rs : Nat} {as' : Array Value} {h : Heap} {Qc : Option Value → Heap → List Loc → Prop}
    (hK : Back l R p e below s args y 3 W (fun A a => a = as' ∧ A.U.heap = h ∧ A.cells + rc ≤ R.cells ∧ A.slots + rs ≤ R.slots) (fun A _ v B => ∃ L, Qc v B.U.heap L ∧ B.locs = A.locs ++ L ∧ B.cells = A.cells + rc ∧ B.slots = A.slots + rs))
    {a : Addr} (hg : g.method = m) (hsize : g.locals.size = c.maxLocals) {argsL rest : List Value} (hlen : ∀ sig, parseMethodDescriptor y.desc = some sig → argsL.length = sig.parameters.length)
    (hstack : g.stack = argsL.reverse ++ .ref a :: rest) (hW : 2 * g.monitorRoom + (rest.map fun v => v.category).sum ≤ W) (hdg : decode c.code g.pc = .ok (.invokespecial index, 3))
    (ha : (Value.ref a :: argsL).toArray = as') (eT : T.heap = h) (hc : cells + rc ≤ R.cells) (hs : slots + rs ≤ R.slots)
    (k : ∀ v T' L, Stand p l e R s m args below meth c T' (locs ++ L) (cells + rc) (slots + rs) → Qc v T'.heap L → own_Go p e below P T' { g with pc := g.pc + 3, stack := v.toList ++ rest }) : own_Go p e below P T g := by
  obtain ⟨v, vm₁, ⟨T', L', k', n'⟩, -, X', ⟨L, hQ, l1, y1, z1⟩, st⟩ := X.specialBack hx hy1 hown hlink hinst hcode hy hK hg hsize (Steps.refl _) hlen hstack hW hdg (fun _ _ => ⟨ha, eT, hc, hs⟩)
  dsimp only [Pt.U, Pt.locs, Pt.cells, Pt.slots] at X' l1 y1 z1 st hQ
  subst l1 y1 z1
  exact own_st (fun t k => st.trans k) (k v T' L X' hQ)
theorem own_callV (X : Stand p l e R s m args below meth c T locs cells slots) (hx : p.tables.exec = Jvm.exec) {own Cn : String} {index : Nat} {y z : MethodName}
    (hown : s.vm.findClass own = some m.cls) (hlink : (Cond.methodLink own index y).before args s = true) (hdecl : (Cond.declares y).before args s = true) (hnf : NotFace s y)
    (hsel : (Cond.selects Cn y z).before args s = true) (hinst : (Cond.instanceMethod z).before args s = true)
    (hy : y.cls ≠ "java/lang/invoke/MethodHandle" ∧ y.cls ≠ "java/lang/invoke/VarHandle")
    {W rc rs : Nat} {as' : Array Value} {h : Heap} {Qc : Option Value → Heap → List Loc → Prop}
    (hK : Back l R p e below s args z 3 W (fun A a => a = as' ∧ A.U.heap = h ∧ A.cells + rc ≤ R.cells ∧ A.slots + rs ≤ R.slots) (fun A _ v B => ∃ L, Qc v B.U.heap L ∧ B.locs = A.locs ++ L ∧ B.cells = A.cells + rc ∧ B.slots = A.slots + rs))
    {a : Addr} {cB : ClassId} (hcB : s.vm.findClass Cn = some cB) (hrecv : IsOf cB T a)
    (hg : g.method = m) (hsize : g.locals.size = c.maxLocals) {argsL rest : List Value} (hlen : ∀ sig, parseMethodDescriptor y.desc = some sig → argsL.length = sig.parameters.length)
    (hstack : g.stack = argsL.reverse ++ .ref a :: rest) (hW : 2 * g.monitorRoom + (rest.map fun v => v.category).sum ≤ W) (hdg : decode c.code g.pc = .ok (.invokevirtual index, 3))
    (ha : (Value.ref a :: argsL).toArray = as') (eT : T.heap = h) (hc : cells + rc ≤ R.cells) (hs : slots + rs ≤ R.slots)
    (k : ∀ v T' L, Stand p l e R s m args below meth c T' (locs ++ L) (cells + rc) (slots + rs) → Qc v T'.heap L → own_Go p e below P T' { g with pc := g.pc + 3, stack := v.toList ++ rest }) : own_Go p e below P T g := by
  obtain ⟨v, vm₁, ⟨T', L', k', n'⟩, -, X', ⟨L, hQ, l1, y1, z1⟩, st⟩ := X.virtualBack hx hown hlink hdecl hnf hsel hinst hy hK hcB hrecv hg hsize (Steps.refl _) hlen hstack hW hdg (fun _ _ => ⟨ha, eT, hc, hs⟩)
  dsimp only [Pt.U, Pt.locs, Pt.cells, Pt.slots] at X' l1 y1 z1 st hQ
  subst l1 y1 z1
  exact own_st (fun t k => st.trans k) (k v T' L X' hQ)
theorem own_callI (X : Stand p l e R s m args below meth c T locs cells slots) (hx : p.tables.exec = Jvm.exec) {own Cn : String} {index count : Nat} {xi y : MethodName}
    (hown : s.vm.findClass own = some m.cls) (hlink : (Cond.methodLink own index xi).before args s = true) (hdecl : (Cond.declares xi).before args s = true)
    (hface : (Cond.interfaceMethod xi.cls xi.cls xi.name xi.desc).before args s = true) (hsel : (Cond.selects Cn xi y).before args s = true) (hinst : (Cond.instanceMethod y).before args s = true)
    (hpub : (Cond.publicMethod y).before args s = true) (hunh : (Cond.unhidden Cn xi.name xi.desc).before args s = true) (hcast : (Cond.castable Cn xi.cls).before args s = true)
    (hy : xi.cls ≠ "java/lang/invoke/MethodHandle" ∧ xi.cls ≠ "java/lang/invoke/VarHandle")
    {W rc rs : Nat} {as' : Array Value} {h : Heap} {Qc : Option Value → Heap → List Loc → Prop}
    (hK : Back l R p e below s args y 5 W (fun A a => a = as' ∧ A.U.heap = h ∧ A.cells + rc ≤ R.cells ∧ A.slots + rs ≤ R.slots) (fun A _ v B => ∃ L, Qc v B.U.heap L ∧ B.locs = A.locs ++ L ∧ B.cells = A.cells + rc ∧ B.slots = A.slots + rs))
    {a : Addr} {cB : ClassId} {kB : Class} (hcB : s.vm.findClass Cn = some cB) (hkB : s.vm.classes[cB]? = some kB) (hrecv : IsOf cB T a)
    (hg : g.method = m) (hsize : g.locals.size = c.maxLocals) {argsL rest : List Value} (hlen : ∀ sig, parseMethodDescriptor xi.desc = some sig → argsL.length = sig.parameters.length)
    (hstack : g.stack = argsL.reverse ++ .ref a :: rest) (hW : 2 * g.monitorRoom + (rest.map fun v => v.category).sum ≤ W) (hdg : decode c.code g.pc = .ok (.invokeinterface index count, 5))
    (ha : (Value.ref a :: argsL).toArray = as') (eT : T.heap = h) (hc : cells + rc ≤ R.cells) (hs : slots + rs ≤ R.slots)
    (k : ∀ v T' L, Stand p l e R s m args below meth c T' (locs ++ L) (cells + rc) (slots + rs) → Qc v T'.heap L → own_Go p e below P T' { g with pc := g.pc + 5, stack := v.toList ++ rest }) : own_Go p e below P T g := by
  obtain ⟨v, vm₁, ⟨T', L', k', n'⟩, -, X', ⟨L, hQ, l1, y1, z1⟩, st⟩ := X.interfaceBack hx hown hlink hdecl hface hsel hinst hpub hunh hcast hy hK hcB hkB hrecv hg hsize (Steps.refl _) hlen hstack hW hdg (fun _ _ => ⟨ha, eT, hc, hs⟩)
  dsimp only [Pt.U, Pt.locs, Pt.cells, Pt.slots] at X' l1 y1 z1 st hQ
  subst l1 y1 z1
  exact own_st (fun t k => st.trans k) (k v T' L X' hQ)
theorem own_callP (X : Stand p l e R s m args below meth c T locs cells slots) (hx : p.tables.exec = Jvm.exec) {own : String} {index : Nat} {y : MethodName} {bytes : ByteArray} {maxL : Nat} {ret : Option FieldType}
    (hown : s.vm.findClass own = some m.cls) (hlink : (Cond.methodLink own index y).before args s = true) (hinst : (Cond.instanceMethod y).before args s = true) (hsel : (Cond.selects y.cls y y).before args s = true)
    (hpriv : s.PrivateAt y) (hcode : (Cond.code y bytes maxL ret).before args s = true) (hy : y.cls ≠ "java/lang/invoke/MethodHandle" ∧ y.cls ≠ "java/lang/invoke/VarHandle")
    {W rc rs : Nat} {as' : Array Value} {h : Heap} {Qc : Option Value → Heap → List Loc → Prop}
    (hK : Back l R p e below s args y 3 W (fun A a => a = as' ∧ A.U.heap = h ∧ A.cells + rc ≤ R.cells ∧ A.slots + rs ≤ R.slots) (fun A _ v B => ∃ L, Qc v B.U.heap L ∧ B.locs = A.locs ++ L ∧ B.cells = A.cells + rc ∧ B.slots = A.slots + rs))
    {a : Addr} {cell : Cell} (hcell : T.heap[a]? = some cell) (hobj : ∀ q, cell.vm ≠ .statics q)
    (hg : g.method = m) (hsize : g.locals.size = c.maxLocals) {argsL rest : List Value} (hlen : ∀ sig, parseMethodDescriptor y.desc = some sig → argsL.length = sig.parameters.length)
    (hstack : g.stack = argsL.reverse ++ .ref a :: rest) (hW : 2 * g.monitorRoom + (rest.map fun v => v.category).sum ≤ W) (hdg : decode c.code g.pc = .ok (.invokevirtual index, 3))
    (ha : (Value.ref a :: argsL).toArray = as') (eT : T.heap = h) (hc : cells + rc ≤ R.cells) (hs : slots + rs ≤ R.slots)
    (k : ∀ v T' L, Stand p l e R s m args below meth c T' (locs ++ L) (cells + rc) (slots + rs) → Qc v T'.heap L → own_Go p e below P T' { g with pc := g.pc + 3, stack := v.toList ++ rest }) : own_Go p e below P T g := by
  obtain ⟨v, vm₁, ⟨T', L', k', n'⟩, -, X', ⟨L, hQ, l1, y1, z1⟩, st⟩ := X.privateBack hx hown hlink hinst hsel hpriv hcode hy hK hg hsize (Steps.refl _) hcell hobj hlen hstack hW hdg (fun _ _ => ⟨ha, eT, hc, hs⟩)
  dsimp only [Pt.U, Pt.locs, Pt.cells, Pt.slots] at X' l1 y1 z1 st hQ
  subst l1 y1 z1
  exact own_st (fun t k => st.trans k) (k v T' L X' hQ)
theorem own_callU (X : Stand p l e R s m args below meth c T locs cells slots) (hx : p.tables.exec = Jvm.exec) {own Cn owner : String} {index : Nat} {y z : MethodName}
    (hown : s.vm.findClass own = some m.cls) (hlink : (Cond.methodLink own index y).before args s = true) (hsame : (Cond.sameMethod y.cls owner y.name y.desc).before args s = true)
    (hdecl : (Cond.declares ⟨owner, y.name, y.desc⟩).before args s = true) (howner : owner ≠ "java/lang/invoke/MethodHandle" ∧ owner ≠ "java/lang/invoke/VarHandle")
    (hsel : (Cond.selects Cn y z).before args s = true) (hinst : (Cond.instanceMethod z).before args s = true)
    {W rc rs : Nat} {as' : Array Value} {h : Heap} {Qc : Option Value → Heap → List Loc → Prop}
    (hK : Back l R p e below s args z 3 W (fun A a => a = as' ∧ A.U.heap = h ∧ A.cells + rc ≤ R.cells ∧ A.slots + rs ≤ R.slots) (fun A _ v B => ∃ L, Qc v B.U.heap L ∧ B.locs = A.locs ++ L ∧ B.cells = A.cells + rc ∧ B.slots = A.slots + rs))
    {a : Addr} {cB : ClassId} (hcB : s.vm.findClass Cn = some cB) (hrecv : IsOf cB T a)
    (hg : g.method = m) (hsize : g.locals.size = c.maxLocals) {argsL rest : List Value} (hlen : ∀ sig, parseMethodDescriptor y.desc = some sig → argsL.length = sig.parameters.length)
    (hstack : g.stack = argsL.reverse ++ .ref a :: rest) (hW : 2 * g.monitorRoom + (rest.map fun v => v.category).sum ≤ W) (hdg : decode c.code g.pc = .ok (.invokevirtual index, 3))
    (ha : (Value.ref a :: argsL).toArray = as') (eT : T.heap = h) (hc : cells + rc ≤ R.cells) (hs : slots + rs ≤ R.slots)
    (k : ∀ v T' L, Stand p l e R s m args below meth c T' (locs ++ L) (cells + rc) (slots + rs) → Qc v T'.heap L → own_Go p e below P T' { g with pc := g.pc + 3, stack := v.toList ++ rest }) : own_Go p e below P T g := by
  obtain ⟨v, vm₁, ⟨T', L', k', n'⟩, -, X', ⟨L, hQ, l1, y1, z1⟩, st⟩ := X.virtualBackUp hx hown hlink hsame hdecl howner hsel hinst hK hcB hrecv hg hsize (Steps.refl _) hlen hstack hW hdg (fun _ _ => ⟨ha, eT, hc, hs⟩)
  dsimp only [Pt.U, Pt.locs, Pt.cells, Pt.slots] at X' l1 y1 z1 st hQ
  subst l1 y1 z1
  exact own_st (fun t k => st.trans k) (k v T' L X' hQ)
end Own
section OwnWords
variable {args : Array Value} {s : State} {t u : Term} {x y : Addr} {C n d : String} {z : Int32}
theorem own_feqR (h : (Cond.eq (Term.field t C n d) u).value args s none s [] = some true) (ht : t.eval args s none [] s = some (.ref x)) (hu : u.eval args s none [] s = some (.ref y)) : s.fieldOf? x C n d = some (.ref y) := by
  obtain ⟨x', y', h1, h2, k1, k2⟩ := cmp_v (Or.inl h)
  cases hu.symm.trans h2
  have hr : x'.isRef = true := k2.2
  have := gotT (eq_R h1 h2 hr rfl) h
  rw [← fld_at ht (idx := []) (first := s) (o := none) (args := args), h1, this]
theorem own_feqI (h : (Cond.eq (Term.field t C n d) (.int z)).value args s none s [] = some true) (ht : t.eval args s none [] s = some (.ref x)) : s.fieldOf? x C n d = some (.int z) := by
  obtain ⟨x', y', h1, h2, k1, k2⟩ := cmp_v (Or.inl h)
  cases (Term.int_eval z).symm.trans h2
  obtain ⟨z', rfl⟩ := k2
  have : z' = z := by simpa [Cond.value, h1, Term.int_eval] using h
  rw [← fld_at ht (idx := []) (first := s) (o := none) (args := args), h1, this]
end OwnWords
section OwnArr
variable {args : Array Value} {s : State} {t : Term} {a : Addr} {cl : Cell} {ty : FieldType} {z j v : Int32}
theorem own_len (h : (Cond.eq (Term.length t) (.int z)).value args s none s [] = some true) (ht : t.eval args s none [] s = some (.ref a)) (A : Arr s s.heap a cl ty) : cl.slots.size < 2 ^ 31 ∧ cl.slots.size.toInt32 = z := by
  obtain ⟨x', y', h1, h2, k1, k2⟩ := cmp_v (Or.inl h)
  cases (Term.int_eval z).symm.trans h2
  obtain ⟨z', rfl⟩ := k2
  have e : z' = z := by simpa [Cond.value, h1, Term.int_eval] using h
  have ha := A.fin (Vm.Alike.refl _)
  by_cases q : cl.slots.size < 2 ^ 31
  · rw [len_f ht ha q] at h1
    cases h1
    exact ⟨q, e⟩
  · simp [Term.eval, ht, ha, q] at h1
theorem own_elem (h : (Cond.eq (Term.elem t (.int j)) (.int v)).value args s none s [] = some true) (ht : t.eval args s none [] s = some (.ref a)) (A : Arr s s.heap a cl ty) (hj : ¬ j < 0) : cl.slots[j.toNatClampNeg]? = some (.int v) := by
  obtain ⟨x', y', h1, h2, k1, k2⟩ := cmp_v (Or.inl h)
  cases (Term.int_eval v).symm.trans h2
  obtain ⟨z', rfl⟩ := k2
  have e : z' = v := by simpa [Cond.value, h1, Term.int_eval] using h
  rw [elem_f ht (Term.int_eval j) (A.fin (Vm.Alike.refl _)) hj] at h1
  rw [h1, e]
theorem own_elemR {u : Term} {y : Addr} (h : (Cond.eq (Term.elem t (.int j)) u).value args s none s [] = some true) (ht : t.eval args s none [] s = some (.ref a)) (hu : u.eval args s none [] s = some (.ref y)) (A : Arr s s.heap a cl ty) (hj : ¬ j < 0) : cl.slots[j.toNatClampNeg]? = some (.ref y) := by
  obtain ⟨x', y', h1, h2, k1, k2⟩ := cmp_v (Or.inl h)
  cases hu.symm.trans h2
  have hr : x'.isRef = true := k2.2
  have e := gotT (eq_R h1 h2 hr rfl) h
  rw [elem_f ht (Term.int_eval j) (A.fin (Vm.Alike.refl _)) hj] at h1
  rw [h1, e]
end OwnArr

section OwnD
variable {p : Program} {l : Launch} {e : Env} {R : Room} {s : State} {m : MethodId} {args : Array Value} {below : List Frame} {meth : Method} {c : Code} {T T' : State} {locs : List Loc} {cells slots : Nat} {P : Outcome → State → Prop} {g g' : JFrame} {Q : Option Value → Heap → List Loc → Prop} {C S : Nat} {Z : State} {a0 : Array Value}
theorem own_retD (X : Stand p l e R s m args below meth c T locs cells slots) (hx : p.tables.exec = Jvm.exec) (hlk : meth.locks = false) {pc : Nat} {Ls : Array Slot} {z : UInt64} {rest : List Value} (hret : meth.sig.returnType = some .double)
    (hd : decode c.code pc = .ok (.dreturn, 1)) (hQ : Q (some (.double z)) T.heap locs) (hC : cells ≤ C) (hS : slots ≤ S) : own_Go p e below (own_End s Q C S) T (mkF m pc Ls (.double z :: rest)) :=
  own_leave X hlk (fun h => by rw [hret] at h; cases h) (fun fs hr => retOut X hx hret rfl (Or.inr (Or.inr (Or.inl ⟨rfl, rfl, z, rfl⟩))) hd hr) hQ hC hS
/-- a constructor called through a nest-mate's entry -/
theorem own_callNN (X : Stand p l e R s m args below meth c T locs cells slots) (hx : p.tables.exec = Jvm.exec) {own host : String} {index : Nat} {y : MethodName} {bytes : ByteArray} {maxL : Nat} (hy1 : y.name = "<init>")
    (hown : s.vm.findClass own = some m.cls) (hlink : (Cond.methodLinkNest own index y host).before args s = true) (hinst : (Cond.instanceMethod y).before args s = true)
    (hcode : (Cond.code y bytes maxL none).before args s = true) (hy : y.cls ≠ "java/lang/invoke/MethodHandle" ∧ y.cls ≠ "java/lang/invoke/VarHandle")
    {W rc rs : Nat} {as' : Array Value} {h : Heap} {Qc : Option Value → Heap → List Loc → Prop}
    (hK : Back l R p e below s args y 3 W (fun A a => a = as' ∧ A.U.heap = h ∧ A.cells + rc ≤ R.cells ∧ A.slots + rs ≤ R.slots) (fun A _ v B => ∃ L, Qc v B.U.heap L ∧ B.locs = A.locs ++ L ∧ B.cells = A.cells + rc ∧ B.slots = A.slots + rs))
    {a : Addr} (hg : g.method = m) (hsize : g.locals.size = c.maxLocals) {argsL rest : List Value} (hlen : ∀ sig, parseMethodDescriptor y.desc = some sig → argsL.length = sig.parameters.length)
    (hstack : g.stack = argsL.reverse ++ .ref a :: rest) (hW : 2 * g.monitorRoom + (rest.map fun v => v.category).sum ≤ W) (hdg : decode c.code g.pc = .ok (.invokespecial index, 3))
    (ha : (Value.ref a :: argsL).toArray = as') (eT : T.heap = h) (hc : cells + rc ≤ R.cells) (hs : slots + rs ≤ R.slots)
    (k : ∀ v T' L, Stand p l e R s m args below meth c T' (locs ++ L) (cells + rc) (slots + rs) → Qc v T'.heap L → own_Go p e below P T' { g with pc := g.pc + 3, stack := v.toList ++ rest }) : own_Go p e below P T g := by
  obtain ⟨v, vm₁, ⟨T', L', k', n'⟩, -, X', ⟨L, hQ, l1, y1, z1⟩, st⟩ := X.specialBackNest hx hy1 hown hlink hinst hcode hy hK hg hsize (Steps.refl _) hlen hstack hW hdg (fun _ _ => ⟨ha, eT, hc, hs⟩)
  dsimp only [Pt.U, Pt.locs, Pt.cells, Pt.slots] at X' l1 y1 z1 st hQ
  subst l1 y1 z1
  exact own_st (fun t k => st.trans k) (k v T' L X' hQ)
theorem own_mvMN {own host : String} {index : Nat} {y : MethodName} (hZ : Z.Warmed39 s.vm) (w : (Cond.methodLinkNest own index y host).before a0 Z = true) : (Cond.methodLinkNest own index y host).before args s = true := (Cond.methodLinkNest_wide hZ w :)
def own_QI (n : Int32) (h : Heap) (v : Option Value) (h' : Heap) (L : List Loc) : Prop := v = some (.int n) ∧ L = [] ∧ h' = h
/-- Double.isFinite of a finite double -/
theorem own_finB {W : Nat} {x : UInt64} {h : Heap} (hZ : Z.Warmed39 s.vm) (hw : ∀ d ∈ tables_1, d.before a0 Z = true) (hf : Jvm.Free.Fl.Fin64 x) (hfr : 2 ≤ R.frames) (hlo : W + 26 ≤ R.locals) :
    Back l R p e below s args (⟨"java/lang/Double", "isFinite", "(D)Z"⟩ : MethodName) 3 W (fun A a' => a' = #[.double x] ∧ A.U.heap = h ∧ A.cells + 0 ≤ R.cells ∧ A.slots + 0 ≤ R.slots)
      (fun A _ v B => ∃ L, own_QI 1 h v B.U.heap L ∧ B.locs = A.locs ++ L ∧ B.cells = A.cells + 0 ∧ B.slots = A.slots + 0) := by
  intro m meth c A g ig mk a' X hg hsize hdg hW hn hp'
  obtain ⟨rfl, rfl, r1, r2⟩ := hp'
  have q : ∀ d ∈ ([Cond.code Jvm.Free.Fl.IsFinite.yN Jvm.Free.Fl.IsFinite.yB 2 (some .boolean), .methodLink "java/lang/Double" 38 Jvm.Free.Fl.Abs.absDN, .static Jvm.Free.Fl.Abs.absDN, .initialized "java/lang/Math", .code Jvm.Free.Fl.Abs.absDN Jvm.Free.Fl.Abs.absDCode 2 (some .double), .constantDouble "java/lang/Double" 111 Jvm.Free.Fl.maxD, .initialized "java/lang/Double"] : List Cond), d ∈ tables_1 ∧ (d.onTables && d.keepsFace) = true := by decide +kernel
  have hq : ∀ d ∈ ([Cond.code Jvm.Free.Fl.IsFinite.yN Jvm.Free.Fl.IsFinite.yB 2 (some .boolean), .methodLink "java/lang/Double" 38 Jvm.Free.Fl.Abs.absDN, .static Jvm.Free.Fl.Abs.absDN, .initialized "java/lang/Math", .code Jvm.Free.Fl.Abs.absDN Jvm.Free.Fl.Abs.absDCode 2 (some .double), .constantDouble "java/lang/Double" 111 Jvm.Free.Fl.maxD, .initialized "java/lang/Double"] : List Cond), d.before args s = true := fun d hd => mv hZ (hw d (q d hd).1) (q d hd).2
  have htab : Jvm.Free.Fl.IsFinite.tab.before args s = true := by
    unfold Jvm.Free.Fl.IsFinite.tab
    simp only [Cond.before_and, Bool.and_eq_true]
    exact ⟨hq _ (by simp), hq _ (by simp [Jvm.Free.Fl.DC]), hq _ (by simp), hq _ (by simp), hq _ (by simp), hq _ (by simp [Jvm.Free.Fl.DC])⟩
  obtain ⟨v, B, X', ⟨⟨h1, h2, h3, h4⟩, hv⟩, st⟩ := Jvm.Free.Fl.IsFinite.pays (l := l) (R := R) (p := p) (e := e) (below := below) (s := s) (sargs := args) (len := 3) (W := W) (by show 1 + 1 ≤ R.frames; omega) (by show W + (2 + 11) + 13 ≤ R.locals; omega) htab (hq _ (by simp [Jvm.Free.Fl.DC])) m meth c A g ig mk _ X hg hsize hdg hW hn ⟨by omega, by omega, x, rfl, hf.noNaN⟩
  refine ⟨v, B, X', ⟨[], ⟨?_, rfl, h1⟩, by rw [h2]; simp, h3, h4⟩, st⟩
  rw [hv x ⟨rfl, hf.noNaN⟩, if_pos ((Jvm.Free.Fl.le_max_iff hf.noNaN).mpr hf)]
theorem own_feqL {t : Term} {x : Addr} {Cn n d : String} {z : Int64} (h : (Cond.eq (Term.field t Cn n d) (.long z)).value args s none s [] = some true) (ht : t.eval args s none [] s = some (.ref x)) : s.fieldOf? x Cn n d = some (.long z) := by
  obtain ⟨x', y', h1, h2, k1, k2⟩ := cmp_v (Or.inl h)
  have e2 : (Term.long z).eval args s none [] s = some (.long z) := rfl
  cases e2.symm.trans h2
  obtain ⟨z', rfl⟩ := k2
  have : z' = z := by simpa [Cond.value, h1, e2] using h
  rw [← fld_at ht (idx := []) (first := s) (o := none) (args := args), h1, this]
end OwnD

/-! The calendar's arithmetic, in plain Lean: what LocalDate.ofEpochDay and toEpochDay reckon, over Int. -/
theorem own_la {x y : Int64} (h1 : -9223372036854775808 ≤ x.toInt + y.toInt) (h2 : x.toInt + y.toInt < 9223372036854775808) : (x + y).toInt = x.toInt + y.toInt := by
  have a := c_ladd x y
  have b := rng64 (x + y)
  omega
theorem own_lsb {x y : Int64} (h1 : -9223372036854775808 ≤ x.toInt - y.toInt) (h2 : x.toInt - y.toInt < 9223372036854775808) : (x - y).toInt = x.toInt - y.toInt := by
  have a := c_lsub x y
  have b := rng64 (x - y)
  omega
theorem own_lm {x y : Int64} {p : Int} (hp : x.toInt * y.toInt = p) (h1 : -9223372036854775808 ≤ p) (h2 : p < 9223372036854775808) : (x * y).toInt = p := by
  have a := c_lmul x y
  have b := rng64 (x * y)
  rw [hp] at a
  omega
theorem own_ln {x : Int64} (h : -9223372036854775808 < x.toInt) : (-x).toInt = -x.toInt := by
  have a := c_lneg x
  have b := rng64 (-x)
  have c := rng64 x
  omega
theorem own_c1 (d : Int64) (hd : -100000200000 ≤ d.toInt ∧ d.toInt ≤ 100000200000) : ((d + (719528 : Int64)) - (60 : Int64)).toInt = d.toInt + 719468 := by
  have e1 : (719528 : Int64).toInt = 719528 := rfl
  have e2 : (60 : Int64).toInt = 60 := rfl
  have a : (d + (719528 : Int64)).toInt = d.toInt + 719528 := by rw [own_la] <;> omega
  rw [own_lsb] <;> omega
/-- what stands at pc 73 -/
def own_P (d : Int64) (o : Int64 × Int64 × Int64) : Prop := ∃ k : Int, o.2.1.toInt = 400 * k ∧ o.1.toInt = d.toInt + 719468 - 146097 * k ∧ 0 ≤ o.1.toInt ∧ o.1.toInt ≤ 100001000000 ∧ -1000000 ≤ k ∧ k ≤ 0 ∧ o.2.2.toInt = (400 * o.1.toInt + 591) / 146097
theorem own_ye (z : Int64) (h : 0 ≤ z.toInt ∧ z.toInt ≤ 100001000000) : ((((400 : Int64) * z) + (591 : Int64)) / (146097 : Int64)).toInt = (400 * z.toInt + 591) / 146097 := by
  have e1 : (400 : Int64).toInt = 400 := rfl
  have e2 : (591 : Int64).toInt = 591 := rfl
  have a : ((400 : Int64) * z).toInt = 400 * z.toInt := own_lm (by rw [e1]) (by omega) (by omega)
  have b : (((400 : Int64) * z) + (591 : Int64)).toInt = 400 * z.toInt + 591 := by rw [own_la] <;> omega
  rw [(c_ldiv _ (146097 : Int64) 146097 rfl (by decide)).1 (by omega), b]
theorem own_c2 (d zz : Int64) (hd : -100000200000 ≤ d.toInt ∧ d.toInt ≤ 100000200000) (hz : zz.toInt = d.toInt + 719468) (h : ¬ zz.toInt < 0) : own_P d (zz, (0 : Int64), ((((400 : Int64) * zz) + (591 : Int64)) / (146097 : Int64))) :=
  ⟨0, rfl, by show zz.toInt = _; omega, by show 0 ≤ zz.toInt; omega, by show zz.toInt ≤ _; omega, by omega, by omega, own_ye zz (by omega)⟩
theorem own_c3 (d zz : Int64) (hd : -100000200000 ≤ d.toInt ∧ d.toInt ≤ 100000200000) (hz : zz.toInt = d.toInt + 719468) (h : zz.toInt < 0) (ac z2 : Int64) (hac : ac = ((zz + (1 : Int64)) / (146097 : Int64)) - (1 : Int64)) (hz2 : z2 = zz + ((-ac) * (146097 : Int64))) : own_P d (z2, ac * (400 : Int64), ((((400 : Int64) * z2) + (591 : Int64)) / (146097 : Int64))) := by
  have e1 : (1 : Int64).toInt = 1 := rfl
  have e2 : (146097 : Int64).toInt = 146097 := rfl
  have e3 : (400 : Int64).toInt = 400 := rfl
  have a : (zz + (1 : Int64)).toInt = zz.toInt + 1 := by rw [own_la] <;> omega
  have q := c_ldiv (zz + (1 : Int64)) (146097 : Int64) 146097 rfl (by decide)
  have b : ((zz + (1 : Int64)) / (146097 : Int64)).toInt = -((-(zz.toInt + 1)) / 146097) := by
    by_cases hc : zz.toInt + 1 < 0
    · rw [q.2 (by omega), a]
    · rw [q.1 (by omega), a]; omega
  have c : ac.toInt = -((-(zz.toInt + 1)) / 146097) - 1 := by rw [hac, own_lsb] <;> omega
  have n : (-ac).toInt = -ac.toInt := own_ln (by omega)
  have m : ((-ac) * (146097 : Int64)).toInt = -ac.toInt * 146097 := own_lm (by rw [n, e2]) (by omega) (by omega)
  have z : z2.toInt = zz.toInt - 146097 * ac.toInt := by rw [hz2, own_la] <;> omega
  exact ⟨ac.toInt, by show (ac * (400 : Int64)).toInt = _; rw [own_lm (p := 400 * ac.toInt) (by rw [e3]; omega) (by omega) (by omega)], by show z2.toInt = _; omega, by show 0 ≤ z2.toInt; omega, by show z2.toInt ≤ _; omega, by omega, by omega, own_ye z2 (by omega)⟩
/-- the day of the year that the estimate leaves -/
def own_F (e : Int) : Int := 365 * e + e / 4 - e / 100 + e / 400
theorem own_dy (z e : Int64) (h : 0 ≤ z.toInt ∧ z.toInt ≤ 100001000000) (he : 0 ≤ e.toInt ∧ e.toInt ≤ 1000000000) : (z - (((((365 : Int64) * e) + (e / (4 : Int64))) - (e / (100 : Int64))) + (e / (400 : Int64)))).toInt = z.toInt - own_F e.toInt := by
  have e1 : (365 : Int64).toInt = 365 := rfl
  have a : ((365 : Int64) * e).toInt = 365 * e.toInt := own_lm (by rw [e1]) (by omega) (by omega)
  have b4 : (e / (4 : Int64)).toInt = e.toInt / 4 := (c_ldiv e (4 : Int64) 4 rfl (by decide)).1 he.1
  have b1 : (e / (100 : Int64)).toInt = e.toInt / 100 := (c_ldiv e (100 : Int64) 100 rfl (by decide)).1 he.1
  have b2 : (e / (400 : Int64)).toInt = e.toInt / 400 := (c_ldiv e (400 : Int64) 400 rfl (by decide)).1 he.1
  have c1 : (((365 : Int64) * e) + (e / (4 : Int64))).toInt = 365 * e.toInt + e.toInt / 4 := by rw [own_la] <;> omega
  have c2 : ((((365 : Int64) * e) + (e / (4 : Int64))) - (e / (100 : Int64))).toInt = 365 * e.toInt + e.toInt / 4 - e.toInt / 100 := by rw [own_lsb] <;> omega
  have c3 : (((((365 : Int64) * e) + (e / (4 : Int64))) - (e / (100 : Int64))) + (e / (400 : Int64))).toInt = own_F e.toInt := by
    have q : (((((365 : Int64) * e) + (e / (4 : Int64))) - (e / (100 : Int64))) + (e / (400 : Int64))).toInt = 365 * e.toInt + e.toInt / 4 - e.toInt / 100 + e.toInt / 400 := by rw [own_la] <;> omega
    exact q
  rw [own_lsb] <;> rw [c3] <;> unfold own_F <;> omega
theorem own_Fs (e : Int) : own_F e - own_F (e - 1) = 365 ∨ own_F e - own_F (e - 1) = 366 := by
  unfold own_F
  by_cases h4 : e % 4 = 0
  · by_cases h1 : e % 100 = 0
    · by_cases h2 : e % 400 = 0
      · right; omega
      · left; omega
    · right; omega
  · left; omega
/-- what stands at pc 148: the year (from March) and the day of that year -/
def own_G (z : Int) (o : Int64 × Int64) : Prop := 0 ≤ o.1.toInt ∧ o.1.toInt ≤ 1000000000 ∧ o.2.toInt = z - own_F o.1.toInt ∧ 0 ≤ o.2.toInt ∧ o.2.toInt ≤ 365
theorem own_g1 (z e dy : Int64) (h : 0 ≤ z.toInt ∧ z.toInt ≤ 100001000000) (he : e.toInt = (400 * z.toInt + 591) / 146097) (hd : dy.toInt = z.toInt - own_F e.toInt) (hn : ¬ dy.toInt < 0) : own_G z.toInt (e, dy) := by
  refine ⟨by show 0 ≤ e.toInt; omega, by show e.toInt ≤ _; omega, hd, by show 0 ≤ dy.toInt; omega, ?_⟩
  show dy.toInt ≤ 365
  unfold own_F at hd
  omega
theorem own_g2 (z e dy : Int64) (h : 0 ≤ z.toInt ∧ z.toInt ≤ 100001000000) (he : e.toInt = (400 * z.toInt + 591) / 146097) (hd : dy.toInt = z.toInt - own_F e.toInt) (hn : dy.toInt < 0) (e' : Int64) (hE : e' = e - (1 : Int64)) : own_G z.toInt (e', z - (((((365 : Int64) * e') + (e' / (4 : Int64))) - (e' / (100 : Int64))) + (e' / (400 : Int64)))) := by
  have e1 : (1 : Int64).toInt = 1 := rfl
  have hp : 1 ≤ e.toInt := by
    by_cases q : 1 ≤ e.toInt
    · exact q
    · have q0 : e.toInt = 0 := by omega
      unfold own_F at hd
      rw [q0] at hd
      omega
  have a : e'.toInt = e.toInt - 1 := by rw [hE, own_lsb] <;> omega
  have b := own_dy z e' h (by omega)
  have f := own_Fs e.toInt
  have lo : -2 ≤ dy.toInt := by
    unfold own_F at hd
    omega
  refine ⟨by show 0 ≤ e'.toInt; omega, by show e'.toInt ≤ _; omega, b, ?_, ?_⟩
  · show 0 ≤ (_ : Int64).toInt
    rw [b, a]
    omega
  · show (_ : Int64).toInt ≤ 365
    rw [b, a]
    omega
theorem own_l2i (x : Int64) (h : -2147483648 ≤ x.toInt ∧ x.toInt < 2147483648) : x.toInt32.toInt = x.toInt := by
  have a := c_l2i x
  have b := rng32 x.toInt32
  omega
theorem own_lcl {x y : Int64} : lcmpW x y < (0 : Int32) ↔ x.toInt < y.toInt := by
  have q := c_lcmp x y
  have e : (0 : Int32).toInt = 0 := rfl
  rw [Int32.lt_iff_toInt_lt, e]
  rcases Int.lt_trichotomy x.toInt y.toInt with h | h | h
  · rw [q.1 h]; omega
  · rw [q.2.1 h]; omega
  · rw [q.2.2 h]; omega
theorem own_lcg {x y : Int64} : (0 : Int32) < lcmpW x y ↔ y.toInt < x.toInt := by
  have q := c_lcmp x y
  have e : (0 : Int32).toInt = 0 := rfl
  rw [Int32.lt_iff_toInt_lt, e]
  rcases Int.lt_trichotomy x.toInt y.toInt with h | h | h
  · rw [q.1 h]; omega
  · rw [q.2.1 h]; omega
  · rw [q.2.2 h]; omega
theorem own_lce {x y : Int64} : lcmpW x y = (0 : Int32) ↔ x.toInt = y.toInt := by
  have q := c_lcmp x y
  have e : (0 : Int32).toInt = 0 := rfl
  rw [← Int32.toInt_inj, e]
  rcases Int.lt_trichotomy x.toInt y.toInt with h | h | h
  · rw [q.1 h]; omega
  · rw [q.2.1 h]; omega
  · rw [q.2.2 h]; omega
theorem own_ia {x y : Int32} (h1 : -2147483648 ≤ x.toInt + y.toInt) (h2 : x.toInt + y.toInt < 2147483648) : (x + y).toInt = x.toInt + y.toInt := by
  have a := c_iadd x y
  have b := rng32 (x + y)
  omega
theorem own_isb {x y : Int32} (h1 : -2147483648 ≤ x.toInt - y.toInt) (h2 : x.toInt - y.toInt < 2147483648) : (x - y).toInt = x.toInt - y.toInt := by
  have a := c_isub x y
  have b := rng32 (x - y)
  omega
theorem own_im {x y : Int32} {p : Int} (hp : x.toInt * y.toInt = p) (h1 : -2147483648 ≤ p) (h2 : p < 2147483648) : (x * y).toInt = p := by
  have a := c_imul x y
  have b := rng32 (x * y)
  rw [hp] at a
  omega
theorem own_mm (md : Int32) (h : 0 ≤ md.toInt ∧ md.toInt ≤ 365) : (((md * (5 : Int32)) + (2 : Int32)) / (153 : Int32)).toInt = (5 * md.toInt + 2) / 153 := by
  have e1 : (5 : Int32).toInt = 5 := rfl
  have e2 : (2 : Int32).toInt = 2 := rfl
  have a : (md * (5 : Int32)).toInt = 5 * md.toInt := own_im (by rw [e1]; omega) (by omega) (by omega)
  have b : ((md * (5 : Int32)) + (2 : Int32)).toInt = 5 * md.toInt + 2 := by rw [own_ia] <;> omega
  rw [(c_idiv _ (153 : Int32) 153 rfl (by decide)).1 (by omega), b]
theorem own_m0 (mm : Int32) (h : 0 ≤ mm.toInt ∧ mm.toInt ≤ 11) : (mm + (3 : Int32)).toInt = mm.toInt + 3 := by
  have e1 : (3 : Int32).toInt = 3 := rfl
  rw [own_ia] <;> omega
theorem own_m1 (m0 : Int32) (h : 3 ≤ m0.toInt ∧ m0.toInt ≤ 14) : (m0 + (-12 : Int32)).toInt = m0.toInt - 12 := by
  have e1 : (-12 : Int32).toInt = -12 := rfl
  rw [own_ia] <;> omega
theorem own_dm (md mm : Int32) (h : 0 ≤ md.toInt ∧ md.toInt ≤ 365) (hm : 0 ≤ mm.toInt ∧ mm.toInt ≤ 11) : ((md - (((mm * (306 : Int32)) + (5 : Int32)) / (10 : Int32))) + (1 : Int32)).toInt = md.toInt - (306 * mm.toInt + 5) / 10 + 1 := by
  have e1 : (306 : Int32).toInt = 306 := rfl
  have e2 : (5 : Int32).toInt = 5 := rfl
  have e3 : (1 : Int32).toInt = 1 := rfl
  have a : (mm * (306 : Int32)).toInt = 306 * mm.toInt := own_im (by rw [e1]; omega) (by omega) (by omega)
  have b : ((mm * (306 : Int32)) + (5 : Int32)).toInt = 306 * mm.toInt + 5 := by rw [own_ia] <;> omega
  have c : (((mm * (306 : Int32)) + (5 : Int32)) / (10 : Int32)).toInt = (306 * mm.toInt + 5) / 10 := by rw [(c_idiv _ (10 : Int32) 10 rfl (by decide)).1 (by omega), b]
  have f : (md - (((mm * (306 : Int32)) + (5 : Int32)) / (10 : Int32))).toInt = md.toInt - (306 * mm.toInt + 5) / 10 := by rw [own_isb] <;> omega
  rw [own_ia] <;> omega
def own_D (d y m k : Int) : Prop := -2000000000 ≤ y ∧ y ≤ 2000000000 ∧ 1 ≤ m ∧ m ≤ 12 ∧ 1 ≤ k ∧ k ≤ 31 ∧ (m ≤ 2 → 365 * y - (-y) / 4 + (-y) / 100 - (-y) / 400 + (367 * m - 362) / 12 + k - 1 - 719528 = d) ∧ (2 < m → own_F y + 1 + (367 * m - 362) / 12 + k - 1 - 2 - 719528 = d)
theorem own_Fp (e k : Int) : own_F (e + 400 * k) = own_F e + 146097 * k := by unfold own_F; omega
theorem own_Lp (e : Int) : 365 * (e + 1) - (-(e + 1)) / 4 + (-(e + 1)) / 100 - (-(e + 1)) / 400 = own_F e + 366 := by unfold own_F; omega
theorem own_cal (d k z e dy ya yb md mm mo dm : Int) (hz : z = d + 719468 - 146097 * k) (hk : -1000000 ≤ k ∧ k ≤ 0) (he : 0 ≤ e ∧ e ≤ 1000000000) (hdy : dy = z - own_F e) (h0 : 0 ≤ dy ∧ dy ≤ 365) (hya : ya = e + 400 * k) (hmd : md = dy) (hmm : mm = (5 * md + 2) / 153)
    (hmo : (mo = mm + 3 ∧ mm + 3 ≤ 12) ∨ (mo = mm - 9 ∧ 12 < mm + 3)) (hdm : dm = md - (306 * mm + 5) / 10 + 1) (hyb : (md < 306 ∧ yb = ya) ∨ (306 ≤ md ∧ yb = ya + 1)) : own_D d yb mo dm := by
  have fp := own_Fp e k
  rw [← hya] at fp
  have lp := own_Lp ya
  have hy1 : -1000000000 ≤ ya ∧ ya ≤ 1000000000 := by omega
  have c : mm = 0 ∨ mm = 1 ∨ mm = 2 ∨ mm = 3 ∨ mm = 4 ∨ mm = 5 ∨ mm = 6 ∨ mm = 7 ∨ mm = 8 ∨ mm = 9 ∨ mm = 10 ∨ mm = 11 := by omega
  have hsm : (mm ≤ 9 ∧ mo = mm + 3 ∧ yb = ya) ∨ (10 ≤ mm ∧ mo = mm - 9 ∧ yb = ya + 1) := by omega
  rcases hsm with ⟨q1, q2, q3⟩ | ⟨q1, q2, q3⟩
  · subst q3
    clear lp
    refine ⟨by omega, by omega, by omega, by omega, ?_, ?_, fun h => by omega, fun h => ?_⟩
    all_goals rcases c with c | c | c | c | c | c | c | c | c | c | c | c <;> subst c <;> subst q2 <;> omega
  · subst q3
    refine ⟨by omega, by omega, by omega, by omega, ?_, ?_, fun h => ?_, fun h => by omega⟩
    all_goals rcases c with c | c | c | c | c | c | c | c | c | c | c | c <;> subst c <;> subst q2 <;> omega
theorem own_t1 (y : Int32) : ((0 : Int64) + ((365 : Int64) * (y.toInt64))).toInt = 365 * y.toInt := by
  have e0 : (0 : Int64).toInt = 0 := rfl
  have e1 : (365 : Int64).toInt = 365 := rfl
  have c := c_i2l y
  have r := rng32 y
  have a : ((365 : Int64) * (y.toInt64)).toInt = 365 * y.toInt := own_lm (by rw [e1, c]) (by omega) (by omega)
  rw [own_la] <;> omega
def own_Lq (y : Int) : Int := 365 * y - (-y) / 4 + (-y) / 100 - (-y) / 400
theorem own_t2a (t : Int64) (y : Int32) (ht : t.toInt = 365 * y.toInt) (hy : ¬ y.toInt < 0) : (t + (((((y.toInt64) + (3 : Int64)) / (4 : Int64)) - (((y.toInt64) + (99 : Int64)) / (100 : Int64))) + (((y.toInt64) + (399 : Int64)) / (400 : Int64)))).toInt = own_Lq y.toInt := by
  have e3 : (3 : Int64).toInt = 3 := rfl
  have e9 : (99 : Int64).toInt = 99 := rfl
  have e4 : (399 : Int64).toInt = 399 := rfl
  have c := c_i2l y
  have r := rng32 y
  have a1 : ((y.toInt64) + (3 : Int64)).toInt = y.toInt + 3 := by rw [own_la] <;> omega
  have a2 : ((y.toInt64) + (99 : Int64)).toInt = y.toInt + 99 := by rw [own_la] <;> omega
  have a3 : ((y.toInt64) + (399 : Int64)).toInt = y.toInt + 399 := by rw [own_la] <;> omega
  have b1 : (((y.toInt64) + (3 : Int64)) / (4 : Int64)).toInt = (y.toInt + 3) / 4 := by rw [(c_ldiv _ (4 : Int64) 4 rfl (by decide)).1 (by omega), a1]
  have b2 : (((y.toInt64) + (99 : Int64)) / (100 : Int64)).toInt = (y.toInt + 99) / 100 := by rw [(c_ldiv _ (100 : Int64) 100 rfl (by decide)).1 (by omega), a2]
  have b3 : (((y.toInt64) + (399 : Int64)) / (400 : Int64)).toInt = (y.toInt + 399) / 400 := by rw [(c_ldiv _ (400 : Int64) 400 rfl (by decide)).1 (by omega), a3]
  have s1 : ((((y.toInt64) + (3 : Int64)) / (4 : Int64)) - (((y.toInt64) + (99 : Int64)) / (100 : Int64))).toInt = (y.toInt + 3) / 4 - (y.toInt + 99) / 100 := by rw [own_lsb] <;> omega
  have s2 : (((((y.toInt64) + (3 : Int64)) / (4 : Int64)) - (((y.toInt64) + (99 : Int64)) / (100 : Int64))) + (((y.toInt64) + (399 : Int64)) / (400 : Int64))).toInt = (y.toInt + 3) / 4 - (y.toInt + 99) / 100 + (y.toInt + 399) / 400 := by rw [own_la] <;> omega
  have s3 : (t + (((((y.toInt64) + (3 : Int64)) / (4 : Int64)) - (((y.toInt64) + (99 : Int64)) / (100 : Int64))) + (((y.toInt64) + (399 : Int64)) / (400 : Int64)))).toInt = 365 * y.toInt + ((y.toInt + 3) / 4 - (y.toInt + 99) / 100 + (y.toInt + 399) / 400) := by rw [own_la] <;> omega
  rw [s3]
  unfold own_Lq
  omega
theorem own_t2b (t : Int64) (y : Int32) (ht : t.toInt = 365 * y.toInt) (hy : y.toInt < 0) : (t - ((((y.toInt64) / (-4 : Int64)) - ((y.toInt64) / (-100 : Int64))) + ((y.toInt64) / (-400 : Int64)))).toInt = own_Lq y.toInt := by
  have c := c_i2l y
  have r := rng32 y
  have n4 : ∀ x : Int, x / (-4) = -(x / 4) := fun x => Int.ediv_neg x 4
  have n1 : ∀ x : Int, x / (-100) = -(x / 100) := fun x => Int.ediv_neg x 100
  have n2 : ∀ x : Int, x / (-400) = -(x / 400) := fun x => Int.ediv_neg x 400
  have b1 : ((y.toInt64) / (-4 : Int64)).toInt = (-y.toInt) / 4 := by rw [(c_ldiv _ (-4 : Int64) (-4) rfl (by decide)).2 (by omega), c, n4]; omega
  have b2 : ((y.toInt64) / (-100 : Int64)).toInt = (-y.toInt) / 100 := by rw [(c_ldiv _ (-100 : Int64) (-100) rfl (by decide)).2 (by omega), c, n1]; omega
  have b3 : ((y.toInt64) / (-400 : Int64)).toInt = (-y.toInt) / 400 := by rw [(c_ldiv _ (-400 : Int64) (-400) rfl (by decide)).2 (by omega), c, n2]; omega
  have s1 : (((y.toInt64) / (-4 : Int64)) - ((y.toInt64) / (-100 : Int64))).toInt = (-y.toInt) / 4 - (-y.toInt) / 100 := by rw [own_lsb] <;> omega
  have s2 : ((((y.toInt64) / (-4 : Int64)) - ((y.toInt64) / (-100 : Int64))) + ((y.toInt64) / (-400 : Int64))).toInt = (-y.toInt) / 4 - (-y.toInt) / 100 + (-y.toInt) / 400 := by rw [own_la] <;> omega
  have s3 : (t - ((((y.toInt64) / (-4 : Int64)) - ((y.toInt64) / (-100 : Int64))) + ((y.toInt64) / (-400 : Int64)))).toInt = 365 * y.toInt - ((-y.toInt) / 4 - (-y.toInt) / 100 + (-y.toInt) / 400) := by rw [own_lsb] <;> omega
  rw [s3]
  unfold own_Lq
  omega
theorem own_t3 (t : Int64) (y : Int) (m : Int32) (ht : t.toInt = own_Lq y) (hy : -2000000000 ≤ y ∧ y ≤ 2000000000) (hm : 1 ≤ m.toInt ∧ m.toInt ≤ 12) : (t + ((((367 : Int64) * (m.toInt64)) - (362 : Int64)) / (12 : Int64))).toInt = own_Lq y + (367 * m.toInt - 362) / 12 := by
  have e1 : (367 : Int64).toInt = 367 := rfl
  have e2 : (362 : Int64).toInt = 362 := rfl
  have c := c_i2l m
  have a : ((367 : Int64) * (m.toInt64)).toInt = 367 * m.toInt := own_lm (by rw [e1, c]) (by omega) (by omega)
  have b : (((367 : Int64) * (m.toInt64)) - (362 : Int64)).toInt = 367 * m.toInt - 362 := by rw [own_lsb] <;> omega
  have d : ((((367 : Int64) * (m.toInt64)) - (362 : Int64)) / (12 : Int64)).toInt = (367 * m.toInt - 362) / 12 := by rw [(c_ldiv _ (12 : Int64) 12 rfl (by decide)).1 (by omega), b]
  have q : -800000000000 ≤ own_Lq y ∧ own_Lq y ≤ 800000000000 := by unfold own_Lq; omega
  rw [own_la] <;> omega
theorem own_t4 (t : Int64) (k : Int32) (hk : 1 ≤ k.toInt ∧ k.toInt ≤ 31) (ht : -900000000000 ≤ t.toInt ∧ t.toInt ≤ 900000000000) : (t + ((k - (1 : Int32)).toInt64)).toInt = t.toInt + k.toInt - 1 := by
  have e1 : (1 : Int32).toInt = 1 := rfl
  have a : (k - (1 : Int32)).toInt = k.toInt - 1 := by rw [own_isb] <;> omega
  have c := c_i2l (k - (1 : Int32))
  rw [own_la] <;> omega
def own_lp (y : Int) : Prop := y % 4 = 0 ∧ (y % 100 ≠ 0 ∨ y % 400 = 0)
theorem own_L1 (y : Int) (h : own_lp y) : own_Lq y = own_F y := by
  obtain ⟨h4, h⟩ := h
  unfold own_Lq own_F
  rcases h with h | h
  · omega
  · omega
theorem own_L0 (y : Int) (h : ¬ own_lp y) : own_Lq y = own_F y + 1 := by
  unfold own_lp at h
  unfold own_Lq own_F
  by_cases h4 : y % 4 = 0
  · have h1 : y % 100 = 0 := by
      by_cases q : y % 100 = 0
      · exact q
      · exact absurd ⟨h4, Or.inl q⟩ h
    have h2 : ¬ y % 400 = 0 := fun q => h ⟨h4, Or.inr q⟩
    omega
  · omega
theorem own_Lr2 (y : Int) (hy : -2000000000 ≤ y ∧ y ≤ 2000000000) : -800000000000 ≤ own_Lq y ∧ own_Lq y ≤ 800000000000 := by unfold own_Lq; omega
/-- what is returned: d -/
theorem own_te {d : Int64} {t : Int64} (hd : -100000200000 ≤ d.toInt ∧ d.toInt ≤ 100000200000) (h : t.toInt = d.toInt + 719528) : t - (719528 : Int64) = d := by
  have e : (719528 : Int64).toInt = 719528 := rfl
  refine Int64.toInt_inj.mp ?_
  rw [own_lsb] <;> omega
theorem own_m1L (t : Int64) (ht : -900000000000 ≤ t.toInt ∧ t.toInt ≤ 900000000000) : (t - (1 : Int64)).toInt = t.toInt - 1 := by
  have e : (1 : Int64).toInt = 1 := rfl
  rw [own_lsb] <;> omega
theorem own_p1L (t : Int64) (ht : -900000000000 ≤ t.toInt ∧ t.toInt ≤ 900000000000) : (t + (1 : Int64)).toInt = t.toInt + 1 := by
  have e : (1 : Int64).toInt = 1 := rfl
  rw [own_la] <;> omega
theorem own_a3 (y : Int64) : (y &&& (3 : Int64)).toInt = y.toInt % 4 := c_maskL y (3 : Int64) 2 (by decide) (by decide)
theorem own_rz (y c : Int64) (k : Int) (hc : c.toInt = k) (hk : 0 < k) : lcmpW (y - (y / c) * c) (0 : Int64) = (0 : Int32) ↔ y.toInt % k = 0 := by
  have e : (0 : Int64).toInt = 0 := rfl
  rw [own_lce, e]
  have q := c_lrem y c k hc
  by_cases h : 0 ≤ y.toInt
  · rw [q.1 h]
  · rw [q.2 (by omega)]
    constructor
    · intro z
      have z' : (-y.toInt) % k = 0 := by omega
      exact Int.emod_eq_zero_of_dvd ((Int.dvd_neg).mp (Int.dvd_of_emod_eq_zero z'))
    · intro z
      have z' : (-y.toInt) % k = 0 := Int.emod_eq_zero_of_dvd ((Int.dvd_neg).mpr (Int.dvd_of_emod_eq_zero z))
      omega
theorem own_az (y : Int64) : lcmpW (y &&& (3 : Int64)) (0 : Int64) = (0 : Int32) ↔ y.toInt % 4 = 0 := by
  have e : (0 : Int64).toInt = 0 := rfl
  rw [own_lce, e, own_a3]
theorem own_s16 (x : Int32) (h : -32768 ≤ x.toInt ∧ x.toInt < 32768) : nar .short (x.toInt16.toInt32) = x := by
  have a := c_i2s x
  have e : x.toInt16.toInt32 = x := Int32.toInt_inj.mp (by omega)
  rw [e]
  show x.toInt16.toInt32 = x
  exact e
theorem own_pop2 {tb : Tables} [Ours tb] {e : Env} {below : List Frame} {T target : State} {m : MethodId} {c : Code} {g : JFrame} (h : At T m c below) (hx : tb.exec = Jvm.exec) (hg : g.method = m) {x : Int64} {rest : List Value} (hd : decode c.code g.pc = .ok (.pop2, 1)) (hs : g.stack = .long x :: rest)
    (hr : Steps tb e below (T.setTop { g with pc := g.pc + 1, stack := rest }) target) : Steps tb e below (T.setTop g) target := by
  subst hg
  jvm_step h [h.top, hx, hd, hs, Value.category]
  exact hr
theorem own_lcl0 {x : Int64} : lcmpW x (0 : Int64) < (0 : Int32) ↔ x.toInt < 0 := own_lcl
theorem own_yl {y : Int32} : lcmpW (y.toInt64) (0 : Int64) < (0 : Int32) ↔ y.toInt < 0 := by rw [own_lcl0, c_i2l]
theorem own_yeb {z e : Int} (h : 0 ≤ z ∧ z ≤ 100001000000) (he : e = (400 * z + 591) / 146097) : 0 ≤ e ∧ e ≤ 1000000000 := by omega
theorem own_yA {ex adj : Int64} {k : Int} (h1 : adj.toInt = 400 * k) (hk : -1000000 ≤ k ∧ k ≤ 0) (he : 0 ≤ ex.toInt ∧ ex.toInt ≤ 1000000000) : (ex + adj).toInt = ex.toInt + 400 * k := by rw [own_la] <;> omega
theorem own_mmb {x : Int} (h : 0 ≤ x ∧ x ≤ 365) : 0 ≤ (5 * x + 2) / 153 ∧ (5 * x + 2) / 153 ≤ 11 := by omega
theorem own_mo1 {m0 mm : Int32} (h : m0.toInt = mm.toInt + 3) (q : ¬ (12 : Int32) < m0) : m0.toInt = mm.toInt + 3 ∧ mm.toInt + 3 ≤ 12 := by
  rw [Int32.lt_iff_toInt_lt] at q
  have e : (12 : Int32).toInt = 12 := rfl
  omega
theorem own_mo2 {m0 mm : Int32} (h : m0.toInt = mm.toInt + 3) (b : 0 ≤ mm.toInt ∧ mm.toInt ≤ 11) (q : (12 : Int32) < m0) : (m0 + (-12 : Int32)).toInt = mm.toInt - 9 ∧ 12 < mm.toInt + 3 := by
  rw [Int32.lt_iff_toInt_lt] at q
  have e : (12 : Int32).toInt = 12 := rfl
  have a := own_m1 m0 (by omega)
  omega
theorem own_lt306 {m : Int32} (h : m < (306 : Int32)) : m.toInt < 306 := by
  rw [Int32.lt_iff_toInt_lt] at h
  exact h
theorem own_ge306 {m : Int32} (h : ¬ m < (306 : Int32)) : 306 ≤ m.toInt := by
  rw [Int32.lt_iff_toInt_lt] at h
  have e : (306 : Int32).toInt = 306 := rfl
  omega
theorem own_yab {ya ex k : Int} (h : ya = ex + 400 * k) (hk : -1000000 ≤ k ∧ k ≤ 0) (he : 0 ≤ ex ∧ ex ≤ 1000000000) : -900000000000 ≤ ya ∧ ya ≤ 900000000000 := by omega
theorem own_ybb {ya yb ex k md : Int} (h : ya = ex + 400 * k) (hk : -1000000 ≤ k ∧ k ≤ 0) (he : 0 ≤ ex ∧ ex ≤ 1000000000) (hy : (md < 306 ∧ yb = ya) ∨ (306 ≤ md ∧ yb = ya + 1)) : -2147483648 ≤ yb ∧ yb < 2147483648 := by omega
theorem own_r1 {d y m k t : Int} (D : own_D d y m k) (hm : m ≤ 2) (ht : t = own_Lq y + (367 * m - 362) / 12 + k - 1) : t = d + 719528 := by
  have q := D.2.2.2.2.2.2.1 hm
  unfold own_Lq at ht
  omega
theorem own_r2 {d y m k t u : Int} (D : own_D d y m k) (hm : 2 < m) (ht : t = own_Lq y + (367 * m - 362) / 12 + k - 1) (lp : own_lp y) (hu : u = t - 1) : u = d + 719528 := by
  have q := D.2.2.2.2.2.2.2 hm
  have r := own_L1 y lp
  omega
theorem own_r3 {d y m k t u w : Int} (D : own_D d y m k) (hm : 2 < m) (ht : t = own_Lq y + (367 * m - 362) / 12 + k - 1) (lp : ¬ own_lp y) (hu : u = t - 1) (hw : w = u - 1) : w = d + 719528 := by
  have q := D.2.2.2.2.2.2.2 hm
  have r := own_L0 y lp
  omega
theorem own_tcb {d y m k t : Int} (D : own_D d y m k) (ht : t = own_Lq y + (367 * m - 362) / 12) : -900000000000 ≤ t ∧ t ≤ 900000000000 := by
  have q := own_Lr2 y ⟨D.1, D.2.1⟩
  have r1 := D.2.2.1
  have r2 := D.2.2.2.1
  omega
theorem own_tdb {d y m k t : Int} (D : own_D d y m k) (ht : t = own_Lq y + (367 * m - 362) / 12 + k - 1) : -900000000000 ≤ t ∧ t ≤ 900000000000 := by
  have q := own_Lr2 y ⟨D.1, D.2.1⟩
  have r1 := D.2.2.1
  have r2 := D.2.2.2.1
  have r3 := D.2.2.2.2.1
  have r4 := D.2.2.2.2.2.1
  omega
theorem own_teb {t u : Int} (ht : -900000000000 ≤ t ∧ t ≤ 800000000032) (hu : u = t - 1) : True := trivial
theorem own_m2 {m : Int32} : (0 : Int32) < lcmpW (m.toInt64) (2 : Int64) ↔ 2 < m.toInt := by
  have e : (2 : Int64).toInt = 2 := rfl
  rw [own_lcg, c_i2l, e]
theorem own_lp1 {y : Int64} (h4 : lcmpW (y &&& (3 : Int64)) (0 : Int64) = (0 : Int32)) (h1 : ¬ lcmpW (y - (y / (100 : Int64)) * (100 : Int64)) (0 : Int64) = (0 : Int32)) : own_lp y.toInt :=
  ⟨(own_az y).mp h4, Or.inl fun q => h1 ((own_rz y (100 : Int64) 100 rfl (by decide)).mpr q)⟩
theorem own_lp2 {y : Int64} (h4 : lcmpW (y &&& (3 : Int64)) (0 : Int64) = (0 : Int32)) (h2 : lcmpW (y - (y / (400 : Int64)) * (400 : Int64)) (0 : Int64) = (0 : Int32)) : own_lp y.toInt :=
  ⟨(own_az y).mp h4, Or.inr ((own_rz y (400 : Int64) 400 rfl (by decide)).mp h2)⟩
theorem own_lp3 {y : Int64} (h4 : ¬ lcmpW (y &&& (3 : Int64)) (0 : Int64) = (0 : Int32)) : ¬ own_lp y.toInt := fun q => h4 ((own_az y).mpr q.1)
theorem own_lp4 {y : Int64} (h1 : lcmpW (y - (y / (100 : Int64)) * (100 : Int64)) (0 : Int64) = (0 : Int32)) (h2 : ¬ lcmpW (y - (y / (400 : Int64)) * (400 : Int64)) (0 : Int64) = (0 : Int32)) : ¬ own_lp y.toInt := fun q => q.2.elim (fun z => z ((own_rz y (100 : Int64) 100 rfl (by decide)).mp h1)) (fun z => h2 ((own_rz y (400 : Int64) 400 rfl (by decide)).mpr z))
theorem own_day0 (d : Int64) : -99999999999 ≤ (d - (d / (100000000000 : Int64)) * (100000000000 : Int64)).toInt ∧ (d - (d / (100000000000 : Int64)) * (100000000000 : Int64)).toInt ≤ 99999999999 := by
  have q := c_lrem d (100000000000 : Int64) 100000000000 rfl
  by_cases h : 0 ≤ d.toInt
  · rw [q.1 h]; omega
  · rw [q.2 (by omega)]; omega
theorem own_day1 (d : Int64) (g : Int32) (h : -100000100000 ≤ d.toInt ∧ d.toInt ≤ 100000100000) : d.toInt < ((d + ((g &&& (65535 : Int32)).toInt64)) + (1 : Int64)).toInt ∧ ((d + ((g &&& (65535 : Int32)).toInt64)) + (1 : Int64)).toInt ≤ d.toInt + 65536 := by
  have e : (1 : Int64).toInt = 1 := rfl
  have e2 : (65535 : Int32).toInt = 65535 := rfl
  have q := c_and g (65535 : Int32) (by decide)
  have c := c_i2l (g &&& (65535 : Int32))
  have a : (d + ((g &&& (65535 : Int32)).toInt64)).toInt = d.toInt + (g &&& (65535 : Int32)).toInt := by rw [own_la] <;> omega
  have b : ((d + ((g &&& (65535 : Int32)).toInt64)) + (1 : Int64)).toInt = d.toInt + (g &&& (65535 : Int32)).toInt + 1 := by rw [own_la] <;> omega
  omega

def QR (r : Value) (h0 : Heap) (n0 : Nat) (v : Option Value) (h : Heap) (L : List Loc) : Prop := v = some r ∧ Fr n0 L ∧ h = h0
theorem own_arvNe {Z : State} {h : Heap} {a b : Addr} {k k' : ClassId} {t t' : FieldType} {z z' : Int32} {vs vs' : List Value} {d d' : Value} (A : Arv Z h a k t z vs d) (B : Arv Z h b k' t' z' vs' d') (hn : t ≠ t') : a ≠ b := fun e => by
  subst e
  obtain ⟨c, ⟨a1, ⟨-, ka, a2, ca, a3⟩, -⟩, -⟩ := A
  obtain ⟨c', ⟨b1, ⟨-, kb, b2, cb, b3⟩, -⟩, -⟩ := B
  cases a1.symm.trans b1
  cases a2.symm.trans b2
  have e := a3.symm.trans b3
  injection e with _ e2
  exact hn e2
theorem d1_0 : decode jdk_2423_method_6_code 0 = .ok (.aload_n 0, 1) := by decide +kernel
theorem d1_1 : decode jdk_2423_method_6_code 1 = .ok (.getfield 33, 3) := by decide +kernel
theorem d1_4 : decode jdk_2423_method_6_code 4 = .ok (.lreturn, 1) := by decide +kernel
theorem pn_0 : plainName "java/time/temporal/ValueRange" = true := by first | (simp [plainName, overriddenIn]; done) | decide +kernel
theorem ef_rmMN (m : MethodId) (x0 : Addr) : entryFrame m #[(.ref x0)] 1 = mkF m 0 #[.val (.ref x0)] [] := by first | (simp [entryFrame, mkF, argsToLocals, Value.category]; done) | rfl
set_option maxRecDepth 65536 in
set_option maxHeartbeats 40000000 in
theorem rmMN (l : Launch) (Z : State) (a0 : Array Value) (hw : ∀ d ∈ tables_1, d.before a0 Z = true) (ws : List Jvm.Cond) (a : Addr) (x : Int64) (h0 : Heap) (n0 : Nat) (Z0 : n0 ≤ h0.size) (F : Fld Z h0 a "java/time/temporal/ValueRange" "minSmallest" "J" (.long x)) :
    MetFree l (⟨"java/time/temporal/ValueRange", "getMinimum", "()J"⟩ : MethodName) (head1 (Jvm.Cond.code (⟨"java/time/temporal/ValueRange", "getMinimum", "()J"⟩ : MethodName) jdk_2423_method_6_code 1 (some .long) :: ws) ({ frames := 0, cells := 0, slots := 0, locals := 0 } : Room)) (fun a_ U_ => a_ = #[(.ref a)] ∧ Z.Warmed39 U_.vm ∧ U_.heap = h0) (fun _ _ _ _ _ => True) (fun _ U_ o_ U'_ => ∃ v_ L_, o_ = .returned v_ ∧ QR (.long x) h0 n0 v_ U'_.heap L_ ∧ FrameEnd U_ o_ U'_ L_ ({ frames := 0, cells := 0, slots := 0, locals := 0 } : Room).cells ({ frames := 0, cells := 0, slots := 0, locals := 0 } : Room).slots) := by
  refine MetFree.of_bodySF (plainFor_of_name pn_0) hisR ?_
  intro p e s m args below meth c s₁ Bd hml0 hP hK
  obtain ⟨rfl, hZ, hh⟩ := hP
  have hx := Bd.exec
  have hby := Bd.bytes
  have hml : c.maxLocals = 1 := hml0
  have hown : s.vm.findClass "java/time/temporal/ValueRange" = some m.cls := findClass_of_methodNamed Bd.named
  have hnm := (name_of_methodNamed Bd.named Bd.method).1
  have hlk := BodyLoose.notSynchronized Bd
  have X0 : Stand p l e ({ frames := 0, cells := 0, slots := 0, locals := 0 } : Room) s m #[(.ref a)] below meth c s₁ [] 0 0 := Stand.of_body Bd
  have e0 : s₁.heap = h0 := by rw [← hh, Bd.state]; rfl
  have N0 := Fr.nil n0
  refine own_entry (P := own_End s (QR (.long x) h0 n0) ({ frames := 0, cells := 0, slots := 0, locals := 0 } : Room).cells ({ frames := 0, cells := 0, slots := 0, locals := 0 } : Room).slots) (ef_rmMN m a) ?_
  show own_Go p e below _ s₁ (mkF m 0 #[.val (.ref a)] [])
  refine own_st (fun t_ k_ => XS.aloadN X0.here hx rfl (hb hby d1_0) rfl rfl k_) ?_
  show own_Go p e below _ s₁ (mkF m 1 #[.val (.ref a)] [(.ref a)])
  obtain ⟨T1, X1, e1, st1⟩ := getF X0 hx hZ hown (host := "") (Or.inl (hw _ (List.mem_of_getElem? (i := 36) rfl))) Via.refl e0 F (g := (mkF m 1 #[.val (.ref a)] [(.ref a)])) rfl rfl (hb hby d1_1)
  refine own_st st1 ?_
  show own_Go p e below _ T1 (mkF m 4 #[.val (.ref a)] [(.long x)])
  refine own_retJ X1 hx hlk Bd.returns (hb hby d1_4) ?_ (by decide) (by decide)
  show QR (.long x) h0 n0 _ T1.heap _
  rw [e1]
  exact ⟨rfl, N0, rfl⟩
theorem d2_0 : decode jdk_2423_method_9_code 0 = .ok (.aload_n 0, 1) := by decide +kernel
theorem d2_1 : decode jdk_2423_method_9_code 1 = .ok (.getfield 43, 3) := by decide +kernel
theorem d2_4 : decode jdk_2423_method_9_code 4 = .ok (.lreturn, 1) := by decide +kernel
theorem ef_rmMX (m : MethodId) (x0 : Addr) : entryFrame m #[(.ref x0)] 1 = mkF m 0 #[.val (.ref x0)] [] := by first | (simp [entryFrame, mkF, argsToLocals, Value.category]; done) | rfl
set_option maxRecDepth 65536 in
set_option maxHeartbeats 40000000 in
theorem rmMX (l : Launch) (Z : State) (a0 : Array Value) (hw : ∀ d ∈ tables_1, d.before a0 Z = true) (ws : List Jvm.Cond) (a : Addr) (x : Int64) (h0 : Heap) (n0 : Nat) (Z0 : n0 ≤ h0.size) (F : Fld Z h0 a "java/time/temporal/ValueRange" "maxLargest" "J" (.long x)) :
    MetFree l (⟨"java/time/temporal/ValueRange", "getMaximum", "()J"⟩ : MethodName) (head1 (Jvm.Cond.code (⟨"java/time/temporal/ValueRange", "getMaximum", "()J"⟩ : MethodName) jdk_2423_method_9_code 1 (some .long) :: ws) ({ frames := 0, cells := 0, slots := 0, locals := 0 } : Room)) (fun a_ U_ => a_ = #[(.ref a)] ∧ Z.Warmed39 U_.vm ∧ U_.heap = h0) (fun _ _ _ _ _ => True) (fun _ U_ o_ U'_ => ∃ v_ L_, o_ = .returned v_ ∧ QR (.long x) h0 n0 v_ U'_.heap L_ ∧ FrameEnd U_ o_ U'_ L_ ({ frames := 0, cells := 0, slots := 0, locals := 0 } : Room).cells ({ frames := 0, cells := 0, slots := 0, locals := 0 } : Room).slots) := by
  refine MetFree.of_bodySF (plainFor_of_name pn_0) hisR ?_
  intro p e s m args below meth c s₁ Bd hml0 hP hK
  obtain ⟨rfl, hZ, hh⟩ := hP
  have hx := Bd.exec
  have hby := Bd.bytes
  have hml : c.maxLocals = 1 := hml0
  have hown : s.vm.findClass "java/time/temporal/ValueRange" = some m.cls := findClass_of_methodNamed Bd.named
  have hnm := (name_of_methodNamed Bd.named Bd.method).1
  have hlk := BodyLoose.notSynchronized Bd
  have X0 : Stand p l e ({ frames := 0, cells := 0, slots := 0, locals := 0 } : Room) s m #[(.ref a)] below meth c s₁ [] 0 0 := Stand.of_body Bd
  have e0 : s₁.heap = h0 := by rw [← hh, Bd.state]; rfl
  have N0 := Fr.nil n0
  refine own_entry (P := own_End s (QR (.long x) h0 n0) ({ frames := 0, cells := 0, slots := 0, locals := 0 } : Room).cells ({ frames := 0, cells := 0, slots := 0, locals := 0 } : Room).slots) (ef_rmMX m a) ?_
  show own_Go p e below _ s₁ (mkF m 0 #[.val (.ref a)] [])
  refine own_st (fun t_ k_ => XS.aloadN X0.here hx rfl (hb hby d2_0) rfl rfl k_) ?_
  show own_Go p e below _ s₁ (mkF m 1 #[.val (.ref a)] [(.ref a)])
  obtain ⟨T1, X1, e1, st1⟩ := getF X0 hx hZ hown (host := "") (Or.inl (hw _ (List.mem_of_getElem? (i := 43) rfl))) Via.refl e0 F (g := (mkF m 1 #[.val (.ref a)] [(.ref a)])) rfl rfl (hb hby d2_1)
  refine own_st st1 ?_
  show own_Go p e below _ T1 (mkF m 4 #[.val (.ref a)] [(.long x)])
  refine own_retJ X1 hx hlk Bd.returns (hb hby d2_4) ?_ (by decide) (by decide)
  show QR (.long x) h0 n0 _ T1.heap _
  rw [e1]
  exact ⟨rfl, N0, rfl⟩
theorem d3_0 : decode jdk_2395_method_8_code 0 = .ok (.aload_n 0, 1) := by decide +kernel
theorem d3_1 : decode jdk_2395_method_8_code 1 = .ok (.getfield 124, 3) := by decide +kernel
theorem d3_4 : decode jdk_2395_method_8_code 4 = .ok (.areturn, 1) := by decide +kernel
theorem pn_1 : plainName "java/time/temporal/ChronoField" = true := by first | (simp [plainName, overriddenIn]; done) | decide +kernel
theorem ef_rmRG (m : MethodId) (x0 : Addr) : entryFrame m #[(.ref x0)] 1 = mkF m 0 #[.val (.ref x0)] [] := by first | (simp [entryFrame, mkF, argsToLocals, Value.category]; done) | rfl
set_option maxRecDepth 65536 in
set_option maxHeartbeats 40000000 in
theorem rmRG (l : Launch) (Z : State) (a0 : Array Value) (hw : ∀ d ∈ tables_1, d.before a0 Z = true) (ws : List Jvm.Cond) (a : Addr) (x : Addr) (h0 : Heap) (n0 : Nat) (Z0 : n0 ≤ h0.size) (F : Fld Z h0 a "java/time/temporal/ChronoField" "range" "Ljava/time/temporal/ValueRange;" (.ref x)) :
    MetFree l (⟨"java/time/temporal/ChronoField", "range", "()Ljava/time/temporal/ValueRange;"⟩ : MethodName) (head1 (Jvm.Cond.code (⟨"java/time/temporal/ChronoField", "range", "()Ljava/time/temporal/ValueRange;"⟩ : MethodName) jdk_2395_method_8_code 1 (some (.object "java/time/temporal/ValueRange")) :: ws) ({ frames := 0, cells := 0, slots := 0, locals := 0 } : Room)) (fun a_ U_ => a_ = #[(.ref a)] ∧ Z.Warmed39 U_.vm ∧ U_.heap = h0) (fun _ _ _ _ _ => True) (fun _ U_ o_ U'_ => ∃ v_ L_, o_ = .returned v_ ∧ QR (.ref x) h0 n0 v_ U'_.heap L_ ∧ FrameEnd U_ o_ U'_ L_ ({ frames := 0, cells := 0, slots := 0, locals := 0 } : Room).cells ({ frames := 0, cells := 0, slots := 0, locals := 0 } : Room).slots) := by
  refine MetFree.of_bodySF (plainFor_of_name pn_1) hisR ?_
  intro p e s m args below meth c s₁ Bd hml0 hP hK
  obtain ⟨rfl, hZ, hh⟩ := hP
  have hx := Bd.exec
  have hby := Bd.bytes
  have hml : c.maxLocals = 1 := hml0
  have hown : s.vm.findClass "java/time/temporal/ChronoField" = some m.cls := findClass_of_methodNamed Bd.named
  have hnm := (name_of_methodNamed Bd.named Bd.method).1
  have hlk := BodyLoose.notSynchronized Bd
  have X0 : Stand p l e ({ frames := 0, cells := 0, slots := 0, locals := 0 } : Room) s m #[(.ref a)] below meth c s₁ [] 0 0 := Stand.of_body Bd
  have e0 : s₁.heap = h0 := by rw [← hh, Bd.state]; rfl
  have N0 := Fr.nil n0
  refine own_entry (P := own_End s (QR (.ref x) h0 n0) ({ frames := 0, cells := 0, slots := 0, locals := 0 } : Room).cells ({ frames := 0, cells := 0, slots := 0, locals := 0 } : Room).slots) (ef_rmRG m a) ?_
  show own_Go p e below _ s₁ (mkF m 0 #[.val (.ref a)] [])
  refine own_st (fun t_ k_ => XS.aloadN X0.here hx rfl (hb hby d3_0) rfl rfl k_) ?_
  show own_Go p e below _ s₁ (mkF m 1 #[.val (.ref a)] [(.ref a)])
  obtain ⟨T1, X1, e1, st1⟩ := getF X0 hx hZ hown (host := "") (Or.inl (hw _ (List.mem_of_getElem? (i := 18) rfl))) Via.refl e0 F (g := (mkF m 1 #[.val (.ref a)] [(.ref a)])) rfl rfl (hb hby d3_1)
  refine own_st st1 ?_
  show own_Go p e below _ T1 (mkF m 4 #[.val (.ref a)] [(.ref x)])
  refine own_retA X1 hx hlk Bd.returns rfl rfl (hb hby d3_4) ?_ (by decide) (by decide)
  show QR (.ref x) h0 n0 _ T1.heap _
  rw [e1]
  exact ⟨rfl, N0, rfl⟩
theorem own_vr1 {d : Int64} (hd : -100000200000 ≤ d.toInt ∧ d.toInt ≤ 100000200000) : ¬ d.toInt < (-365243219162 : Int64).toInt := by
  have e : (-365243219162 : Int64).toInt = -365243219162 := rfl
  omega
theorem own_vr2 {d : Int64} (hd : -100000200000 ≤ d.toInt ∧ d.toInt ≤ 100000200000) : ¬ (365241780471 : Int64).toInt < d.toInt := by
  have e : (365241780471 : Int64).toInt = 365241780471 := rfl
  omega
theorem d4_0 : decode jdk_2423_method_11_code 0 = .ok (.lload_n 1, 1) := by decide +kernel
theorem d4_1 : decode jdk_2423_method_11_code 1 = .ok (.aload_n 0, 1) := by decide +kernel
theorem d4_2 : decode jdk_2423_method_11_code 2 = .ok (.invokevirtual 46, 3) := by decide +kernel
theorem pd_0 : parseMethodDescriptor "()J" = some ⟨[], some .long⟩ := by decide +kernel
theorem d4_5 : decode jdk_2423_method_11_code 5 = .ok (.lcmp, 1) := by decide +kernel
theorem d4_6 : decode jdk_2423_method_11_code 6 = .ok (.ifCond .lt 16, 3) := by decide +kernel
theorem d4_9 : decode jdk_2423_method_11_code 9 = .ok (.lload_n 1, 1) := by decide +kernel
theorem d4_10 : decode jdk_2423_method_11_code 10 = .ok (.aload_n 0, 1) := by decide +kernel
theorem d4_11 : decode jdk_2423_method_11_code 11 = .ok (.invokevirtual 54, 3) := by decide +kernel
theorem d4_14 : decode jdk_2423_method_11_code 14 = .ok (.lcmp, 1) := by decide +kernel
theorem d4_15 : decode jdk_2423_method_11_code 15 = .ok (.ifCond .gt 7, 3) := by decide +kernel
theorem d4_18 : decode jdk_2423_method_11_code 18 = .ok (.iconst 1, 1) := by decide +kernel
theorem d4_19 : decode jdk_2423_method_11_code 19 = .ok (.goto 4, 3) := by decide +kernel
theorem d4_23 : decode jdk_2423_method_11_code 23 = .ok (.ireturn, 1) := by decide +kernel
theorem ef_rmIV (m : MethodId) (x0 : Addr) (x1 : Int64) : entryFrame m #[(.ref x0), (.long x1)] 3 = mkF m 0 #[.val (.ref x0), .val (.long x1), .second] [] := by first | (simp [entryFrame, mkF, argsToLocals, Value.category]; done) | rfl
set_option maxRecDepth 65536 in
set_option maxHeartbeats 40000000 in
theorem rmIV (l : Launch) (Z : State) (a0 : Array Value) (hw : ∀ d ∈ tables_1, d.before a0 Z = true) (ws : List Jvm.Cond) (d : Int64) (cf rg iso : Addr) (h0 : Heap) (n0 : Nat) (Z0 : n0 ≤ h0.size) (O0 : Old Z n0 h0) (SEp : Sta Z Z.heap "java/time/temporal/ChronoField" "EPOCH_DAY" "Ljava/time/temporal/ChronoField;" (.ref cf)) (Ecf : Exa Z Z.heap cf "java/time/temporal/ChronoField") (Frg : Fld Z Z.heap cf "java/time/temporal/ChronoField" "range" "Ljava/time/temporal/ValueRange;" (.ref rg)) (Erg : Exa Z Z.heap rg "java/time/temporal/ValueRange") (Fmn : Fld Z Z.heap rg "java/time/temporal/ValueRange" "minSmallest" "J" (.long (-365243219162 : Int64))) (Fmx : Fld Z Z.heap rg "java/time/temporal/ValueRange" "maxLargest" "J" (.long (365241780471 : Int64))) (SIn : Sta Z Z.heap "java/time/chrono/IsoChronology" "INSTANCE" "Ljava/time/chrono/IsoChronology;" (.ref iso)) (Eis : Exa Z Z.heap iso "java/time/chrono/IsoChronology") (hd : -100000200000 ≤ d.toInt ∧ d.toInt ≤ 100000200000) :
    MetFree l (⟨"java/time/temporal/ValueRange", "isValidValue", "(J)Z"⟩ : MethodName) (head1 (Jvm.Cond.code (⟨"java/time/temporal/ValueRange", "isValidValue", "(J)Z"⟩ : MethodName) jdk_2423_method_11_code 3 (some .boolean) :: ws) ({ frames := 1, cells := 0, slots := 0, locals := 14 } : Room)) (fun a_ U_ => a_ = #[(.ref rg), (.long d)] ∧ Z.Warmed39 U_.vm ∧ U_.heap = h0) (fun _ _ _ _ _ => True) (fun _ U_ o_ U'_ => ∃ v_ L_, o_ = .returned v_ ∧ QR (.int 1) h0 n0 v_ U'_.heap L_ ∧ FrameEnd U_ o_ U'_ L_ ({ frames := 1, cells := 0, slots := 0, locals := 14 } : Room).cells ({ frames := 1, cells := 0, slots := 0, locals := 14 } : Room).slots) := by
  refine MetFree.of_bodySF (plainFor_of_name pn_0) hisR ?_
  intro p e s m args below meth c s₁ Bd hml0 hP hK
  obtain ⟨rfl, hZ, hh⟩ := hP
  have hx := Bd.exec
  have hby := Bd.bytes
  have hml : c.maxLocals = 3 := hml0
  have hown : s.vm.findClass "java/time/temporal/ValueRange" = some m.cls := findClass_of_methodNamed Bd.named
  have hnm := (name_of_methodNamed Bd.named Bd.method).1
  have hlk := BodyLoose.notSynchronized Bd
  have X0 : Stand p l e ({ frames := 1, cells := 0, slots := 0, locals := 14 } : Room) s m #[(.ref rg), (.long d)] below meth c s₁ [] 0 0 := Stand.of_body Bd
  have e0 : s₁.heap = h0 := by rw [← hh, Bd.state]; rfl
  have N0 := Fr.nil n0
  refine own_entry (P := own_End s (QR (.int 1) h0 n0) ({ frames := 1, cells := 0, slots := 0, locals := 14 } : Room).cells ({ frames := 1, cells := 0, slots := 0, locals := 14 } : Room).slots) (ef_rmIV m rg d) ?_
  show own_Go p e below _ s₁ (mkF m 0 #[.val (.ref rg), .val (.long d), .second] [])
  have c1_ := Exa.ext O0.2 Ecf
  have c2_ := Fld.ext O0.2 Frg
  have c3_ := Exa.ext O0.2 Erg
  have c4_ := Fld.ext O0.2 Fmn
  have c5_ := Fld.ext O0.2 Fmx
  have c6_ := Exa.ext O0.2 Eis
  have hlo : ¬ ((lcmpW d (-365243219162 : Int64)) < (0 : Int32)) := fun q => absurd (own_lcl.mp q) (own_vr1 hd)
  have hhi : ¬ ((0 : Int32) < (lcmpW d (365241780471 : Int64))) := fun q => absurd (own_lcg.mp q) (own_vr2 hd)
  refine own_st (fun t_ k_ => XS.lloadN X0.here hx rfl (hb hby d4_0) rfl k_) ?_
  show own_Go p e below _ s₁ (mkF m 1 #[.val (.ref rg), .val (.long d), .second] [(.long d)])
  refine own_st (fun t_ k_ => XS.aloadN X0.here hx rfl (hb hby d4_1) rfl rfl k_) ?_
  show own_Go p e below _ s₁ (mkF m 2 #[.val (.ref rg), .val (.long d), .second] [(.ref rg), (.long d)])
  obtain ⟨cq2, kq2, q2a, q2b, q2c⟩ := isOf hZ e0 c3_
  refine own_callV X0 hx (y := (⟨"java/time/temporal/ValueRange", "getMinimum", "()J"⟩ : MethodName)) (z := (⟨"java/time/temporal/ValueRange", "getMinimum", "()J"⟩ : MethodName)) hown (mvT hZ (hw _ (List.mem_of_getElem? (i := 31) rfl))) (mvT hZ (hw _ (List.mem_of_getElem? (i := 32) rfl))) (notFace_of_selects (args := #[]) (mvT hZ (hw _ (List.mem_of_getElem? (i := 34) rfl)))) (mvT hZ (hw _ (List.mem_of_getElem? (i := 34) rfl))) (mvT hZ (hw _ (List.mem_of_getElem? (i := 33) rfl))) (by decide) (backOf (W := 2) (rmMN l Z a0 hw [] rg (-365243219162 : Int64) h0 n0 (Nat.le_trans Z0 (Keep.refl h0 []).1) c4_) hZ (hw _ (List.mem_of_getElem? (i := 35) rfl)) (hw _ (List.mem_of_getElem? (i := 24) rfl)) (by decide) (by decide)) q2a q2c (g := (mkF m 2 #[.val (.ref rg), .val (.long d), .second] [(.ref rg), (.long d)])) rfl (by rw [hml]; rfl) (argsL := []) (rest := [(.long d)]) (lenOf pd_0 rfl) rfl (by show 2 * 0 + _ ≤ _; exact Nat.le_of_eq rfl) (hb hby d4_2) rfl e0 (by decide) (by decide) ?_
  rintro v1 T1 L1 X1 ⟨rfl, Nq1, hh1⟩
  have N1 := Fr.app N0 Nq1
  show own_Go p e below _ T1 (mkF m 5 #[.val (.ref rg), .val (.long d), .second] [(.long (-365243219162 : Int64)), (.long d)])
  refine own_st (fun t_ k_ => XS.lcmp X1.here hx rfl (hb hby d4_5) rfl k_) ?_
  show own_Go p e below _ T1 (mkF m 6 #[.val (.ref rg), .val (.long d), .second] [(.int (lcmpW d (-365243219162 : Int64)))])
  refine own_st (fun t_ k_ => XS.ifNo X1.here hx rfl (hb hby d4_6) rfl ((if0 _ _).trans (flt hlo).1) k_) ?_
  show own_Go p e below _ T1 (mkF m 9 #[.val (.ref rg), .val (.long d), .second] [])
  refine own_st (fun t_ k_ => XS.lloadN X1.here hx rfl (hb hby d4_9) rfl k_) ?_
  show own_Go p e below _ T1 (mkF m 10 #[.val (.ref rg), .val (.long d), .second] [(.long d)])
  refine own_st (fun t_ k_ => XS.aloadN X1.here hx rfl (hb hby d4_10) rfl rfl k_) ?_
  show own_Go p e below _ T1 (mkF m 11 #[.val (.ref rg), .val (.long d), .second] [(.ref rg), (.long d)])
  obtain ⟨cq4, kq4, q4a, q4b, q4c⟩ := isOf hZ hh1 c3_
  refine own_callV X1 hx (y := (⟨"java/time/temporal/ValueRange", "getMaximum", "()J"⟩ : MethodName)) (z := (⟨"java/time/temporal/ValueRange", "getMaximum", "()J"⟩ : MethodName)) hown (mvT hZ (hw _ (List.mem_of_getElem? (i := 38) rfl))) (mvT hZ (hw _ (List.mem_of_getElem? (i := 39) rfl))) (notFace_of_selects (args := #[]) (mvT hZ (hw _ (List.mem_of_getElem? (i := 41) rfl)))) (mvT hZ (hw _ (List.mem_of_getElem? (i := 41) rfl))) (mvT hZ (hw _ (List.mem_of_getElem? (i := 40) rfl))) (by decide) (backOf (W := 2) (rmMX l Z a0 hw [] rg (365241780471 : Int64) h0 n0 (Nat.le_trans Z0 (Keep.refl h0 []).1) c5_) hZ (hw _ (List.mem_of_getElem? (i := 42) rfl)) (hw _ (List.mem_of_getElem? (i := 24) rfl)) (by decide) (by decide)) q4a q4c (g := (mkF m 11 #[.val (.ref rg), .val (.long d), .second] [(.ref rg), (.long d)])) rfl (by rw [hml]; rfl) (argsL := []) (rest := [(.long d)]) (lenOf pd_0 rfl) rfl (by show 2 * 0 + _ ≤ _; exact Nat.le_of_eq rfl) (hb hby d4_11) rfl hh1 (by decide) (by decide) ?_
  rintro v3 T3 L3 X3 ⟨rfl, Nq3, hh3⟩
  have N3 := Fr.app N1 Nq3
  show own_Go p e below _ T3 (mkF m 14 #[.val (.ref rg), .val (.long d), .second] [(.long (365241780471 : Int64)), (.long d)])
  refine own_st (fun t_ k_ => XS.lcmp X3.here hx rfl (hb hby d4_14) rfl k_) ?_
  show own_Go p e below _ T3 (mkF m 15 #[.val (.ref rg), .val (.long d), .second] [(.int (lcmpW d (365241780471 : Int64)))])
  refine own_st (fun t_ k_ => XS.ifNo X3.here hx rfl (hb hby d4_15) rfl ((if0 _ _).trans (flt hhi).2.2.1) k_) ?_
  show own_Go p e below _ T3 (mkF m 18 #[.val (.ref rg), .val (.long d), .second] [])
  refine own_st (fun t_ k_ => XS.iconst X3.here hx rfl (hb hby d4_18) k_) ?_
  show own_Go p e below _ T3 (mkF m 19 #[.val (.ref rg), .val (.long d), .second] [(.int (1 : Int32))])
  refine own_st (fun t_ k_ => XS.goto X3.here hx rfl (pc0 := 19) (pc' := 23) rfl (hb hby d4_19) (by decide) (by decide) k_) ?_
  show own_Go p e below _ T3 (mkF m 23 #[.val (.ref rg), .val (.long d), .second] [(.int (1 : Int32))])
  refine own_retN X3 hx hlk (t := .boolean) Bd.returns (by simp) (hb hby d4_23) ?_ (by decide) (by decide)
  show QR (.int 1) h0 n0 _ T3.heap _
  rw [hh3]
  exact ⟨rfl, N3, rfl⟩
theorem d5_0 : decode jdk_2423_method_13_code 0 = .ok (.aload_n 0, 1) := by decide +kernel
theorem d5_1 : decode jdk_2423_method_13_code 1 = .ok (.lload_n 1, 1) := by decide +kernel
theorem d5_2 : decode jdk_2423_method_13_code 2 = .ok (.invokevirtual 63, 3) := by decide +kernel
theorem pd_1 : parseMethodDescriptor "(J)Z" = some ⟨[.long], some .boolean⟩ := by decide +kernel
theorem d5_5 : decode jdk_2423_method_13_code 5 = .ok (.ifCond .ne 17, 3) := by decide +kernel
theorem d5_22 : decode jdk_2423_method_13_code 22 = .ok (.lload_n 1, 1) := by decide +kernel
theorem d5_23 : decode jdk_2423_method_13_code 23 = .ok (.lreturn, 1) := by decide +kernel
theorem ef_rmCV (m : MethodId) (x0 : Addr) (x1 : Int64) (x2 : Addr) : entryFrame m #[(.ref x0), (.long x1), (.ref x2)] 4 = mkF m 0 #[.val (.ref x0), .val (.long x1), .second, .val (.ref x2)] [] := by first | (simp [entryFrame, mkF, argsToLocals, Value.category]; done) | rfl
set_option maxRecDepth 65536 in
set_option maxHeartbeats 40000000 in
theorem rmCV (l : Launch) (Z : State) (a0 : Array Value) (hw : ∀ d ∈ tables_1, d.before a0 Z = true) (ws : List Jvm.Cond) (d : Int64) (cf rg iso : Addr) (h0 : Heap) (n0 : Nat) (Z0 : n0 ≤ h0.size) (O0 : Old Z n0 h0) (SEp : Sta Z Z.heap "java/time/temporal/ChronoField" "EPOCH_DAY" "Ljava/time/temporal/ChronoField;" (.ref cf)) (Ecf : Exa Z Z.heap cf "java/time/temporal/ChronoField") (Frg : Fld Z Z.heap cf "java/time/temporal/ChronoField" "range" "Ljava/time/temporal/ValueRange;" (.ref rg)) (Erg : Exa Z Z.heap rg "java/time/temporal/ValueRange") (Fmn : Fld Z Z.heap rg "java/time/temporal/ValueRange" "minSmallest" "J" (.long (-365243219162 : Int64))) (Fmx : Fld Z Z.heap rg "java/time/temporal/ValueRange" "maxLargest" "J" (.long (365241780471 : Int64))) (SIn : Sta Z Z.heap "java/time/chrono/IsoChronology" "INSTANCE" "Ljava/time/chrono/IsoChronology;" (.ref iso)) (Eis : Exa Z Z.heap iso "java/time/chrono/IsoChronology") (hd : -100000200000 ≤ d.toInt ∧ d.toInt ≤ 100000200000) :
    MetFree l (⟨"java/time/temporal/ValueRange", "checkValidValue", "(JLjava/time/temporal/TemporalField;)J"⟩ : MethodName) (head1 (Jvm.Cond.code (⟨"java/time/temporal/ValueRange", "checkValidValue", "(JLjava/time/temporal/TemporalField;)J"⟩ : MethodName) jdk_2423_method_13_code 4 (some .long) :: ws) ({ frames := 2, cells := 0, slots := 0, locals := 28 } : Room)) (fun a_ U_ => a_ = #[(.ref rg), (.long d), (.ref cf)] ∧ Z.Warmed39 U_.vm ∧ U_.heap = h0) (fun _ _ _ _ _ => True) (fun _ U_ o_ U'_ => ∃ v_ L_, o_ = .returned v_ ∧ QR (.long d) h0 n0 v_ U'_.heap L_ ∧ FrameEnd U_ o_ U'_ L_ ({ frames := 2, cells := 0, slots := 0, locals := 28 } : Room).cells ({ frames := 2, cells := 0, slots := 0, locals := 28 } : Room).slots) := by
  refine MetFree.of_bodySF (plainFor_of_name pn_0) hisR ?_
  intro p e s m args below meth c s₁ Bd hml0 hP hK
  obtain ⟨rfl, hZ, hh⟩ := hP
  have hx := Bd.exec
  have hby := Bd.bytes
  have hml : c.maxLocals = 4 := hml0
  have hown : s.vm.findClass "java/time/temporal/ValueRange" = some m.cls := findClass_of_methodNamed Bd.named
  have hnm := (name_of_methodNamed Bd.named Bd.method).1
  have hlk := BodyLoose.notSynchronized Bd
  have X0 : Stand p l e ({ frames := 2, cells := 0, slots := 0, locals := 28 } : Room) s m #[(.ref rg), (.long d), (.ref cf)] below meth c s₁ [] 0 0 := Stand.of_body Bd
  have e0 : s₁.heap = h0 := by rw [← hh, Bd.state]; rfl
  have N0 := Fr.nil n0
  refine own_entry (P := own_End s (QR (.long d) h0 n0) ({ frames := 2, cells := 0, slots := 0, locals := 28 } : Room).cells ({ frames := 2, cells := 0, slots := 0, locals := 28 } : Room).slots) (ef_rmCV m rg d cf) ?_
  show own_Go p e below _ s₁ (mkF m 0 #[.val (.ref rg), .val (.long d), .second, .val (.ref cf)] [])
  have c1_ := Exa.ext O0.2 Ecf
  have c2_ := Fld.ext O0.2 Frg
  have c3_ := Exa.ext O0.2 Erg
  have c4_ := Fld.ext O0.2 Fmn
  have c5_ := Fld.ext O0.2 Fmx
  have c6_ := Exa.ext O0.2 Eis
  refine own_st (fun t_ k_ => XS.aloadN X0.here hx rfl (hb hby d5_0) rfl rfl k_) ?_
  show own_Go p e below _ s₁ (mkF m 1 #[.val (.ref rg), .val (.long d), .second, .val (.ref cf)] [(.ref rg)])
  refine own_st (fun t_ k_ => XS.lloadN X0.here hx rfl (hb hby d5_1) rfl k_) ?_
  show own_Go p e below _ s₁ (mkF m 2 #[.val (.ref rg), .val (.long d), .second, .val (.ref cf)] [(.long d), (.ref rg)])
  obtain ⟨cq2, kq2, q2a, q2b, q2c⟩ := isOf hZ e0 c3_
  refine own_callV X0 hx (y := (⟨"java/time/temporal/ValueRange", "isValidValue", "(J)Z"⟩ : MethodName)) (z := (⟨"java/time/temporal/ValueRange", "isValidValue", "(J)Z"⟩ : MethodName)) hown (mvT hZ (hw _ (List.mem_of_getElem? (i := 26) rfl))) (mvT hZ (hw _ (List.mem_of_getElem? (i := 27) rfl))) (notFace_of_selects (args := #[]) (mvT hZ (hw _ (List.mem_of_getElem? (i := 29) rfl)))) (mvT hZ (hw _ (List.mem_of_getElem? (i := 29) rfl))) (mvT hZ (hw _ (List.mem_of_getElem? (i := 28) rfl))) (by decide) (backOf (W := 0) (rmIV l Z a0 hw [] d cf rg iso h0 n0 (Nat.le_trans Z0 (Keep.refl h0 []).1) O0 SEp Ecf Frg Erg Fmn Fmx SIn Eis hd) hZ (hw _ (List.mem_of_getElem? (i := 30) rfl)) (hw _ (List.mem_of_getElem? (i := 24) rfl)) (by decide) (by decide)) q2a q2c (g := (mkF m 2 #[.val (.ref rg), .val (.long d), .second, .val (.ref cf)] [(.long d), (.ref rg)])) rfl (by rw [hml]; rfl) (argsL := [(.long d)]) (rest := []) (lenOf pd_1 rfl) rfl (by show 2 * 0 + _ ≤ _; exact Nat.le_of_eq rfl) (hb hby d5_2) rfl e0 (by decide) (by decide) ?_
  rintro v1 T1 L1 X1 ⟨rfl, Nq1, hh1⟩
  have N1 := Fr.app N0 Nq1
  show own_Go p e below _ T1 (mkF m 5 #[.val (.ref rg), .val (.long d), .second, .val (.ref cf)] [(.int (1 : Int32))])
  refine own_st (fun t_ k_ => XS.ifYes X1.here hx rfl (pc0 := 5) (pc' := 22) rfl (hb hby d5_5) rfl (by decide) (by decide) (by decide) k_) ?_
  show own_Go p e below _ T1 (mkF m 22 #[.val (.ref rg), .val (.long d), .second, .val (.ref cf)] [])
  refine own_st (fun t_ k_ => XS.lloadN X1.here hx rfl (hb hby d5_22) rfl k_) ?_
  show own_Go p e below _ T1 (mkF m 23 #[.val (.ref rg), .val (.long d), .second, .val (.ref cf)] [(.long d)])
  refine own_retJ X1 hx hlk Bd.returns (hb hby d5_23) ?_ (by decide) (by decide)
  show QR (.long d) h0 n0 _ T1.heap _
  rw [hh1]
  exact ⟨rfl, N1, rfl⟩
theorem d6_0 : decode jdk_2395_method_11_code 0 = .ok (.aload_n 0, 1) := by decide +kernel
theorem d6_1 : decode jdk_2395_method_11_code 1 = .ok (.invokevirtual 190, 3) := by decide +kernel
theorem pd_2 : parseMethodDescriptor "()Ljava/time/temporal/ValueRange;" = some ⟨[], some (.object "java/time/temporal/ValueRange")⟩ := by decide +kernel
theorem d6_4 : decode jdk_2395_method_11_code 4 = .ok (.lload_n 1, 1) := by decide +kernel
theorem d6_5 : decode jdk_2395_method_11_code 5 = .ok (.aload_n 0, 1) := by decide +kernel
theorem d6_6 : decode jdk_2395_method_11_code 6 = .ok (.invokevirtual 193, 3) := by decide +kernel
theorem pd_3 : parseMethodDescriptor "(JLjava/time/temporal/TemporalField;)J" = some ⟨[.long, (.object "java/time/temporal/TemporalField")], some .long⟩ := by decide +kernel
theorem d6_9 : decode jdk_2395_method_11_code 9 = .ok (.lreturn, 1) := by decide +kernel
theorem ef_rmCC (m : MethodId) (x0 : Addr) (x1 : Int64) : entryFrame m #[(.ref x0), (.long x1)] 3 = mkF m 0 #[.val (.ref x0), .val (.long x1), .second] [] := by first | (simp [entryFrame, mkF, argsToLocals, Value.category]; done) | rfl
set_option maxRecDepth 65536 in
set_option maxHeartbeats 40000000 in
theorem rmCC (l : Launch) (Z : State) (a0 : Array Value) (hw : ∀ d ∈ tables_1, d.before a0 Z = true) (ws : List Jvm.Cond) (d : Int64) (cf rg iso : Addr) (h0 : Heap) (n0 : Nat) (Z0 : n0 ≤ h0.size) (O0 : Old Z n0 h0) (SEp : Sta Z Z.heap "java/time/temporal/ChronoField" "EPOCH_DAY" "Ljava/time/temporal/ChronoField;" (.ref cf)) (Ecf : Exa Z Z.heap cf "java/time/temporal/ChronoField") (Frg : Fld Z Z.heap cf "java/time/temporal/ChronoField" "range" "Ljava/time/temporal/ValueRange;" (.ref rg)) (Erg : Exa Z Z.heap rg "java/time/temporal/ValueRange") (Fmn : Fld Z Z.heap rg "java/time/temporal/ValueRange" "minSmallest" "J" (.long (-365243219162 : Int64))) (Fmx : Fld Z Z.heap rg "java/time/temporal/ValueRange" "maxLargest" "J" (.long (365241780471 : Int64))) (SIn : Sta Z Z.heap "java/time/chrono/IsoChronology" "INSTANCE" "Ljava/time/chrono/IsoChronology;" (.ref iso)) (Eis : Exa Z Z.heap iso "java/time/chrono/IsoChronology") (hd : -100000200000 ≤ d.toInt ∧ d.toInt ≤ 100000200000) :
    MetFree l (⟨"java/time/temporal/ChronoField", "checkValidValue", "(J)J"⟩ : MethodName) (head1 (Jvm.Cond.code (⟨"java/time/temporal/ChronoField", "checkValidValue", "(J)J"⟩ : MethodName) jdk_2395_method_11_code 3 (some .long) :: ws) ({ frames := 3, cells := 0, slots := 0, locals := 43 } : Room)) (fun a_ U_ => a_ = #[(.ref cf), (.long d)] ∧ Z.Warmed39 U_.vm ∧ U_.heap = h0) (fun _ _ _ _ _ => True) (fun _ U_ o_ U'_ => ∃ v_ L_, o_ = .returned v_ ∧ QR (.long d) h0 n0 v_ U'_.heap L_ ∧ FrameEnd U_ o_ U'_ L_ ({ frames := 3, cells := 0, slots := 0, locals := 43 } : Room).cells ({ frames := 3, cells := 0, slots := 0, locals := 43 } : Room).slots) := by
  refine MetFree.of_bodySF (plainFor_of_name pn_1) hisR ?_
  intro p e s m args below meth c s₁ Bd hml0 hP hK
  obtain ⟨rfl, hZ, hh⟩ := hP
  have hx := Bd.exec
  have hby := Bd.bytes
  have hml : c.maxLocals = 3 := hml0
  have hown : s.vm.findClass "java/time/temporal/ChronoField" = some m.cls := findClass_of_methodNamed Bd.named
  have hnm := (name_of_methodNamed Bd.named Bd.method).1
  have hlk := BodyLoose.notSynchronized Bd
  have X0 : Stand p l e ({ frames := 3, cells := 0, slots := 0, locals := 43 } : Room) s m #[(.ref cf), (.long d)] below meth c s₁ [] 0 0 := Stand.of_body Bd
  have e0 : s₁.heap = h0 := by rw [← hh, Bd.state]; rfl
  have N0 := Fr.nil n0
  refine own_entry (P := own_End s (QR (.long d) h0 n0) ({ frames := 3, cells := 0, slots := 0, locals := 43 } : Room).cells ({ frames := 3, cells := 0, slots := 0, locals := 43 } : Room).slots) (ef_rmCC m cf d) ?_
  show own_Go p e below _ s₁ (mkF m 0 #[.val (.ref cf), .val (.long d), .second] [])
  have c1_ := Exa.ext O0.2 Ecf
  have c2_ := Fld.ext O0.2 Frg
  have c3_ := Exa.ext O0.2 Erg
  have c4_ := Fld.ext O0.2 Fmn
  have c5_ := Fld.ext O0.2 Fmx
  have c6_ := Exa.ext O0.2 Eis
  refine own_st (fun t_ k_ => XS.aloadN X0.here hx rfl (hb hby d6_0) rfl rfl k_) ?_
  show own_Go p e below _ s₁ (mkF m 1 #[.val (.ref cf), .val (.long d), .second] [(.ref cf)])
  obtain ⟨cq2, kq2, q2a, q2b, q2c⟩ := isOf hZ e0 c1_
  refine own_callV X0 hx (y := (⟨"java/time/temporal/ChronoField", "range", "()Ljava/time/temporal/ValueRange;"⟩ : MethodName)) (z := (⟨"java/time/temporal/ChronoField", "range", "()Ljava/time/temporal/ValueRange;"⟩ : MethodName)) hown (mvT hZ (hw _ (List.mem_of_getElem? (i := 13) rfl))) (mvT hZ (hw _ (List.mem_of_getElem? (i := 14) rfl))) (notFace_of_selects (args := #[]) (mvT hZ (hw _ (List.mem_of_getElem? (i := 16) rfl)))) (mvT hZ (hw _ (List.mem_of_getElem? (i := 16) rfl))) (mvT hZ (hw _ (List.mem_of_getElem? (i := 15) rfl))) (by decide) (backOf (W := 0) (rmRG l Z a0 hw [] cf rg h0 n0 (Nat.le_trans Z0 (Keep.refl h0 []).1) c2_) hZ (hw _ (List.mem_of_getElem? (i := 17) rfl)) (hw _ (List.mem_of_getElem? (i := 7) rfl)) (by decide) (by decide)) q2a q2c (g := (mkF m 1 #[.val (.ref cf), .val (.long d), .second] [(.ref cf)])) rfl (by rw [hml]; rfl) (argsL := []) (rest := []) (lenOf pd_2 rfl) rfl (by show 2 * 0 + _ ≤ _; exact Nat.le_of_eq rfl) (hb hby d6_1) rfl e0 (by decide) (by decide) ?_
  rintro v1 T1 L1 X1 ⟨rfl, Nq1, hh1⟩
  have N1 := Fr.app N0 Nq1
  show own_Go p e below _ T1 (mkF m 4 #[.val (.ref cf), .val (.long d), .second] [(.ref rg)])
  refine own_st (fun t_ k_ => XS.lloadN X1.here hx rfl (hb hby d6_4) rfl k_) ?_
  show own_Go p e below _ T1 (mkF m 5 #[.val (.ref cf), .val (.long d), .second] [(.long d), (.ref rg)])
  refine own_st (fun t_ k_ => XS.aloadN X1.here hx rfl (hb hby d6_5) rfl rfl k_) ?_
  show own_Go p e below _ T1 (mkF m 6 #[.val (.ref cf), .val (.long d), .second] [(.ref cf), (.long d), (.ref rg)])
  obtain ⟨cq4, kq4, q4a, q4b, q4c⟩ := isOf hZ hh1 c3_
  refine own_callV X1 hx (y := (⟨"java/time/temporal/ValueRange", "checkValidValue", "(JLjava/time/temporal/TemporalField;)J"⟩ : MethodName)) (z := (⟨"java/time/temporal/ValueRange", "checkValidValue", "(JLjava/time/temporal/TemporalField;)J"⟩ : MethodName)) hown (mvT hZ (hw _ (List.mem_of_getElem? (i := 20) rfl))) (mvT hZ (hw _ (List.mem_of_getElem? (i := 21) rfl))) (notFace_of_selects (args := #[]) (mvT hZ (hw _ (List.mem_of_getElem? (i := 23) rfl)))) (mvT hZ (hw _ (List.mem_of_getElem? (i := 23) rfl))) (mvT hZ (hw _ (List.mem_of_getElem? (i := 22) rfl))) (by decide) (backOf (W := 0) (rmCV l Z a0 hw [] d cf rg iso h0 n0 (Nat.le_trans Z0 (Keep.refl h0 []).1) O0 SEp Ecf Frg Erg Fmn Fmx SIn Eis hd) hZ (hw _ (List.mem_of_getElem? (i := 25) rfl)) (hw _ (List.mem_of_getElem? (i := 24) rfl)) (by decide) (by decide)) q4a q4c (g := (mkF m 6 #[.val (.ref cf), .val (.long d), .second] [(.ref cf), (.long d), (.ref rg)])) rfl (by rw [hml]; rfl) (argsL := [(.long d), (.ref cf)]) (rest := []) (lenOf pd_3 rfl) rfl (by show 2 * 0 + _ ≤ _; exact Nat.le_of_eq rfl) (hb hby d6_6) rfl hh1 (by decide) (by decide) ?_
  rintro v3 T3 L3 X3 ⟨rfl, Nq3, hh3⟩
  have N3 := Fr.app N1 Nq3
  show own_Go p e below _ T3 (mkF m 9 #[.val (.ref cf), .val (.long d), .second] [(.long d)])
  refine own_retJ X3 hx hlk Bd.returns (hb hby d6_9) ?_ (by decide) (by decide)
  show QR (.long d) h0 n0 _ T3.heap _
  rw [hh3]
  exact ⟨rfl, N3, rfl⟩
def QLI (Z : State) (a : Addr) (y m k : Int32) (h0 : Heap) (n0 : Nat) (v : Option Value) (h : Heap) (L : List Loc) : Prop := v = none ∧ Fr n0 L ∧ Keep h0 h [a] ∧ Exa Z h a "java/time/LocalDate" ∧ Fld Z h a "java/time/LocalDate" "year" "I" (.int y) ∧ Fld Z h a "java/time/LocalDate" "month" "S" (.int m) ∧ Fld Z h a "java/time/LocalDate" "day" "S" (.int k)
theorem d7_0 : decode jdk_2323_method_14_code 0 = .ok (.aload_n 0, 1) := by decide +kernel
theorem d7_1 : decode jdk_2323_method_14_code 1 = .ok (.invokespecial 243, 3) := by decide +kernel
theorem d7_4 : decode jdk_2323_method_14_code 4 = .ok (.aload_n 0, 1) := by decide +kernel
theorem d7_5 : decode jdk_2323_method_14_code 5 = .ok (.iload_n 1, 1) := by decide +kernel
theorem d7_6 : decode jdk_2323_method_14_code 6 = .ok (.putfield 246, 3) := by decide +kernel
theorem d7_9 : decode jdk_2323_method_14_code 9 = .ok (.aload_n 0, 1) := by decide +kernel
theorem d7_10 : decode jdk_2323_method_14_code 10 = .ok (.iload_n 2, 1) := by decide +kernel
theorem d7_11 : decode jdk_2323_method_14_code 11 = .ok (.i2s, 1) := by decide +kernel
theorem d7_12 : decode jdk_2323_method_14_code 12 = .ok (.putfield 250, 3) := by decide +kernel
theorem d7_15 : decode jdk_2323_method_14_code 15 = .ok (.aload_n 0, 1) := by decide +kernel
theorem d7_16 : decode jdk_2323_method_14_code 16 = .ok (.iload_n 3, 1) := by decide +kernel
theorem d7_17 : decode jdk_2323_method_14_code 17 = .ok (.i2s, 1) := by decide +kernel
theorem d7_18 : decode jdk_2323_method_14_code 18 = .ok (.putfield 253, 3) := by decide +kernel
theorem d7_21 : decode jdk_2323_method_14_code 21 = .ok (.return_, 1) := by decide +kernel
theorem pn_2 : plainName "java/time/LocalDate" = true := by first | (simp [plainName, overriddenIn]; done) | decide +kernel
theorem ef_rmLI (m : MethodId) (x0 : Addr) (x1 : Int32) (x2 : Int32) (x3 : Int32) : entryFrame m #[(.ref x0), (.int x1), (.int x2), (.int x3)] 4 = mkF m 0 #[.val (.ref x0), .val (.int x1), .val (.int x2), .val (.int x3)] [] := by first | (simp [entryFrame, mkF, argsToLocals, Value.category]; done) | rfl
set_option maxRecDepth 65536 in
set_option maxHeartbeats 40000000 in
theorem rmLI (l : Launch) (Z : State) (a0 : Array Value) (hw : ∀ d ∈ tables_1, d.before a0 Z = true) (ws : List Jvm.Cond) (a : Addr) (y m_ k : Int32) (h0 : Heap) (n0 : Nat) (Z0 : n0 ≤ h0.size) (g_a : n0 ≤ a) (Ea : Exa Z h0 a "java/time/LocalDate") (F1 : Fld Z h0 a "java/time/LocalDate" "year" "I" (.int (0 : Int32))) (F2 : Fld Z h0 a "java/time/LocalDate" "month" "S" (.int (0 : Int32))) (F3 : Fld Z h0 a "java/time/LocalDate" "day" "S" (.int (0 : Int32))) (hm : -32768 ≤ m_.toInt ∧ m_.toInt < 32768) (hk_ : -32768 ≤ k.toInt ∧ k.toInt < 32768) :
    MetFree l (⟨"java/time/LocalDate", "<init>", "(III)V"⟩ : MethodName) (head1 (Jvm.Cond.code (⟨"java/time/LocalDate", "<init>", "(III)V"⟩ : MethodName) jdk_2323_method_14_code 4 none :: ws) ({ frames := 1, cells := 0, slots := 0, locals := 12 } : Room)) (fun a_ U_ => a_ = #[(.ref a), (.int y), (.int m_), (.int k)] ∧ Z.Warmed39 U_.vm ∧ U_.heap = h0) (fun _ _ _ _ _ => True) (fun _ U_ o_ U'_ => ∃ v_ L_, o_ = .returned v_ ∧ QLI Z a y m_ k h0 n0 v_ U'_.heap L_ ∧ FrameEnd U_ o_ U'_ L_ ({ frames := 1, cells := 0, slots := 0, locals := 12 } : Room).cells ({ frames := 1, cells := 0, slots := 0, locals := 12 } : Room).slots) := by
  refine MetFree.of_bodySF (plainFor_of_name pn_2) hisR ?_
  intro p e s m args below meth c s₁ Bd hml0 hP hK
  obtain ⟨rfl, hZ, hh⟩ := hP
  have hx := Bd.exec
  have hby := Bd.bytes
  have hml : c.maxLocals = 4 := hml0
  have hown : s.vm.findClass "java/time/LocalDate" = some m.cls := findClass_of_methodNamed Bd.named
  have hnm := (name_of_methodNamed Bd.named Bd.method).1
  have hlk := BodyLoose.notSynchronized Bd
  have X0 : Stand p l e ({ frames := 1, cells := 0, slots := 0, locals := 12 } : Room) s m #[(.ref a), (.int y), (.int m_), (.int k)] below meth c s₁ [] 0 0 := Stand.of_body Bd
  have e0 : s₁.heap = h0 := by rw [← hh, Bd.state]; rfl
  have N0 := Fr.nil n0
  refine own_entry (P := own_End s (QLI Z a y m_ k h0 n0) ({ frames := 1, cells := 0, slots := 0, locals := 12 } : Room).cells ({ frames := 1, cells := 0, slots := 0, locals := 12 } : Room).slots) (ef_rmLI m a y m_ k) ?_
  show own_Go p e below _ s₁ (mkF m 0 #[.val (.ref a), .val (.int y), .val (.int m_), .val (.int k)] [])
  refine own_st (fun t_ k_ => XS.aloadN X0.here hx rfl (hb hby d7_0) rfl rfl k_) ?_
  show own_Go p e below _ s₁ (mkF m 1 #[.val (.ref a), .val (.int y), .val (.int m_), .val (.int k)] [(.ref a)])
  obtain ⟨T1, X1, e1, st1⟩ := initO X0 hx hZ hown (hw _ (List.mem_of_getElem? (i := 59) rfl)) (hw _ (List.mem_of_getElem? (i := 60) rfl)) (hw _ (List.mem_of_getElem? (i := 61) rfl)) e0 (g := (mkF m 1 #[.val (.ref a), .val (.int y), .val (.int m_), .val (.int k)] [(.ref a)])) rfl (by rw [hml]; rfl) rfl (hb hby d7_1) (by decide) (W := 0) (by show 2 * 0 + _ ≤ _; exact Nat.le_of_eq rfl) (by decide)
  refine own_st st1 ?_
  show own_Go p e below _ T1 (mkF m 4 #[.val (.ref a), .val (.int y), .val (.int m_), .val (.int k)] [])
  refine own_st (fun t_ k_ => XS.aloadN X1.here hx rfl (hb hby d7_4) rfl rfl k_) ?_
  show own_Go p e below _ T1 (mkF m 5 #[.val (.ref a), .val (.int y), .val (.int m_), .val (.int k)] [(.ref a)])
  refine own_st (fun t_ k_ => XS.iloadN X1.here hx rfl (hb hby d7_5) rfl k_) ?_
  show own_Go p e below _ T1 (mkF m 6 #[.val (.ref a), .val (.int y), .val (.int m_), .val (.int k)] [(.int y), (.ref a)])
  obtain ⟨T2, h2, X2, e2, W2, st2⟩ := putF X1 hx hZ hown (host := "") (Or.inl (hw _ (List.mem_of_getElem? (i := 62) rfl))) Via.refl e1 F1 Ea (Or.inr ⟨(hw _ (List.mem_of_getElem? (i := 63) rfl)), rfl, hnm⟩) (hw _ (List.mem_of_getElem? (i := 54) rfl)) (ty := .int) (by decide) rfl rfl (g := (mkF m 6 #[.val (.ref a), .val (.int y), .val (.int m_), .val (.int k)] [(.int y), (.ref a)])) rfl rfl (hb hby d7_6)
  refine own_st st2 ?_
  have N2 := Fr.snoc X2 N0 g_a
  have K2 : Keep h0 h2 [a] := (Keep.refl h0 [a]).wr W2 (Or.inl (List.mem_of_getElem? (i := 0) rfl))
  have Fw2 := Fld.same W2 F1
  show own_Go p e below _ T2 (mkF m 9 #[.val (.ref a), .val (.int y), .val (.int m_), .val (.int k)] [])
  refine own_st (fun t_ k_ => XS.aloadN X2.here hx rfl (hb hby d7_9) rfl rfl k_) ?_
  show own_Go p e below _ T2 (mkF m 10 #[.val (.ref a), .val (.int y), .val (.int m_), .val (.int k)] [(.ref a)])
  refine own_st (fun t_ k_ => XS.iloadN X2.here hx rfl (hb hby d7_10) rfl k_) ?_
  show own_Go p e below _ T2 (mkF m 11 #[.val (.ref a), .val (.int y), .val (.int m_), .val (.int k)] [(.int m_), (.ref a)])
  refine own_st (fun t_ k_ => XS.i2s X2.here hx rfl (hb hby d7_11) rfl k_) ?_
  show own_Go p e below _ T2 (mkF m 12 #[.val (.ref a), .val (.int y), .val (.int m_), .val (.int k)] [(.int (m_.toInt16.toInt32)), (.ref a)])
  have f4 := (Fld.other W2 F2 (Or.inr (slot_ne (Or.inr (hw _ (List.mem_of_getElem? (i := 65) rfl))) (Or.inr (hw _ (List.mem_of_getElem? (i := 63) rfl))) (by decide) (t := .short) (t' := .int) (by decide) (by decide))))
  have f5 := (Exa.wr W2 Ea)
  obtain ⟨T3, h3, X3, e3, W3, st3⟩ := putFN X2 hx hZ hown (hw _ (List.mem_of_getElem? (i := 64) rfl)) Via.refl e2 f4 f5 (Or.inr ⟨(hw _ (List.mem_of_getElem? (i := 65) rfl)), rfl, hnm⟩) (hw _ (List.mem_of_getElem? (i := 54) rfl)) (ty := .short) (v' := (.int (nar .short (m_.toInt16.toInt32)))) (by decide) rfl (fits_nar_short _) (g := (mkF m 12 #[.val (.ref a), .val (.int y), .val (.int m_), .val (.int k)] [(.int (m_.toInt16.toInt32)), (.ref a)])) rfl rfl (hb hby d7_12)
  refine own_st st3 ?_
  have N3 := Fr.snoc X3 N2 g_a
  have K3 : Keep h0 h3 [a] := K2.wr W3 (Or.inl (List.mem_of_getElem? (i := 0) rfl))
  have Fw3 := Fld.same W3 f4
  show own_Go p e below _ T3 (mkF m 15 #[.val (.ref a), .val (.int y), .val (.int m_), .val (.int k)] [])
  refine own_st (fun t_ k_ => XS.aloadN X3.here hx rfl (hb hby d7_15) rfl rfl k_) ?_
  show own_Go p e below _ T3 (mkF m 16 #[.val (.ref a), .val (.int y), .val (.int m_), .val (.int k)] [(.ref a)])
  refine own_st (fun t_ k_ => XS.iloadN X3.here hx rfl (hb hby d7_16) rfl k_) ?_
  show own_Go p e below _ T3 (mkF m 17 #[.val (.ref a), .val (.int y), .val (.int m_), .val (.int k)] [(.int k), (.ref a)])
  refine own_st (fun t_ k_ => XS.i2s X3.here hx rfl (hb hby d7_17) rfl k_) ?_
  show own_Go p e below _ T3 (mkF m 18 #[.val (.ref a), .val (.int y), .val (.int m_), .val (.int k)] [(.int (k.toInt16.toInt32)), (.ref a)])
  have f7 := (Fld.other W2 F3 (Or.inr (slot_ne (Or.inr (hw _ (List.mem_of_getElem? (i := 67) rfl))) (Or.inr (hw _ (List.mem_of_getElem? (i := 63) rfl))) (by decide) (t := .short) (t' := .int) (by decide) (by decide))))
  have f8 := (Fld.other W3 f7 (Or.inr (slot_ne (Or.inr (hw _ (List.mem_of_getElem? (i := 67) rfl))) (Or.inr (hw _ (List.mem_of_getElem? (i := 65) rfl))) (by decide) (t := .short) (t' := .short) (by decide) (by decide))))
  have f9 := (Exa.wr W3 f5)
  obtain ⟨T6, h6, X6, e6, W6, st6⟩ := putFN X3 hx hZ hown (hw _ (List.mem_of_getElem? (i := 66) rfl)) Via.refl e3 f8 f9 (Or.inr ⟨(hw _ (List.mem_of_getElem? (i := 67) rfl)), rfl, hnm⟩) (hw _ (List.mem_of_getElem? (i := 54) rfl)) (ty := .short) (v' := (.int (nar .short (k.toInt16.toInt32)))) (by decide) rfl (fits_nar_short _) (g := (mkF m 18 #[.val (.ref a), .val (.int y), .val (.int m_), .val (.int k)] [(.int (k.toInt16.toInt32)), (.ref a)])) rfl rfl (hb hby d7_18)
  refine own_st st6 ?_
  have N6 := Fr.snoc X6 N3 g_a
  have K6 : Keep h0 h6 [a] := K3.wr W6 (Or.inl (List.mem_of_getElem? (i := 0) rfl))
  have Fw6 := Fld.same W6 f8
  show own_Go p e below _ T6 (mkF m 21 #[.val (.ref a), .val (.int y), .val (.int m_), .val (.int k)] [])
  have f10 := (Exa.wr W6 f9)
  have f11 := (Fld.other W3 Fw2 (Or.inr (slot_ne (Or.inr (hw _ (List.mem_of_getElem? (i := 63) rfl))) (Or.inr (hw _ (List.mem_of_getElem? (i := 65) rfl))) (by decide) (t := .int) (t' := .short) (by decide) (by decide))))
  have f12 := (Fld.other W6 f11 (Or.inr (slot_ne (Or.inr (hw _ (List.mem_of_getElem? (i := 63) rfl))) (Or.inr (hw _ (List.mem_of_getElem? (i := 67) rfl))) (by decide) (t := .int) (t' := .short) (by decide) (by decide))))
  have f13 := (Fld.other W6 Fw3 (Or.inr (slot_ne (Or.inr (hw _ (List.mem_of_getElem? (i := 65) rfl))) (Or.inr (hw _ (List.mem_of_getElem? (i := 67) rfl))) (by decide) (t := .short) (t' := .short) (by decide) (by decide))))
  refine own_ret0 X6 hx hlk Bd.returns (hb hby d7_21) ?_ (by decide) (by decide)
  show QLI Z a y m_ k h0 n0 _ T6.heap _
  rw [e6]
  exact ⟨rfl, N6, K6, f10, f12, by have q := f13; rw [own_s16 m_ hm] at q; exact q, by have q := Fw6; rw [own_s16 k hk_] at q; exact q⟩
theorem own_dm16 {d y : Int} {m k : Int32} (D : own_D d y m.toInt k.toInt) : -32768 ≤ m.toInt ∧ m.toInt < 32768 := by
  have r1 := D.2.2.1
  have r2 := D.2.2.2.1
  omega
theorem own_dk16 {d y : Int} {m k : Int32} (D : own_D d y m.toInt k.toInt) : -32768 ≤ k.toInt ∧ k.toInt < 32768 := by
  have r1 := D.2.2.2.2.1
  have r2 := D.2.2.2.2.2.1
  omega
def QLD (Z : State) (d : Int64) (h0 : Heap) (n0 : Nat) (v : Option Value) (h : Heap) (L : List Loc) : Prop := ∃ (o : Addr) (y m k : Int32), v = some (.ref o) ∧ Fr n0 L ∧ Keep h0 h [] ∧ h0.size ≤ o ∧ n0 ≤ o ∧ Exa Z h o "java/time/LocalDate" ∧ Fld Z h o "java/time/LocalDate" "year" "I" (.int y) ∧ Fld Z h o "java/time/LocalDate" "month" "S" (.int m) ∧ Fld Z h o "java/time/LocalDate" "day" "S" (.int k) ∧ own_D d.toInt y.toInt m.toInt k.toInt
theorem d8_0 : decode jdk_2323_method_8_code 0 = .ok (.getstatic 161, 3) := by decide +kernel
theorem d8_3 : decode jdk_2323_method_8_code 3 = .ok (.lload_n 0, 1) := by decide +kernel
theorem d8_4 : decode jdk_2323_method_8_code 4 = .ok (.invokevirtual 45, 3) := by decide +kernel
theorem pd_4 : parseMethodDescriptor "(J)J" = some ⟨[.long], some .long⟩ := by decide +kernel
theorem d8_7 : decode jdk_2323_method_8_code 7 = .ok (.pop2, 1) := by decide +kernel
theorem d8_8 : decode jdk_2323_method_8_code 8 = .ok (.lload_n 0, 1) := by decide +kernel
theorem d8_9 : decode jdk_2323_method_8_code 9 = .ok (.ldc2_w 164, 3) := by decide +kernel
theorem d8_12 : decode jdk_2323_method_8_code 12 = .ok (.ladd, 1) := by decide +kernel
theorem d8_13 : decode jdk_2323_method_8_code 13 = .ok (.lstore_n 2, 1) := by decide +kernel
theorem d8_14 : decode jdk_2323_method_8_code 14 = .ok (.lload_n 2, 1) := by decide +kernel
theorem d8_15 : decode jdk_2323_method_8_code 15 = .ok (.ldc2_w 166, 3) := by decide +kernel
theorem d8_18 : decode jdk_2323_method_8_code 18 = .ok (.lsub, 1) := by decide +kernel
theorem d8_19 : decode jdk_2323_method_8_code 19 = .ok (.lstore_n 2, 1) := by decide +kernel
theorem d8_20 : decode jdk_2323_method_8_code 20 = .ok (.lconst 0, 1) := by decide +kernel
theorem d8_21 : decode jdk_2323_method_8_code 21 = .ok (.lstore 4, 2) := by decide +kernel
theorem d8_23 : decode jdk_2323_method_8_code 23 = .ok (.lload_n 2, 1) := by decide +kernel
theorem d8_24 : decode jdk_2323_method_8_code 24 = .ok (.lconst 0, 1) := by decide +kernel
theorem d8_25 : decode jdk_2323_method_8_code 25 = .ok (.lcmp, 1) := by decide +kernel
theorem d8_26 : decode jdk_2323_method_8_code 26 = .ok (.ifCond .ge 32, 3) := by decide +kernel
theorem d8_58 : decode jdk_2323_method_8_code 58 = .ok (.ldc2_w 170, 3) := by decide +kernel
theorem d8_61 : decode jdk_2323_method_8_code 61 = .ok (.lload_n 2, 1) := by decide +kernel
theorem d8_62 : decode jdk_2323_method_8_code 62 = .ok (.lmul, 1) := by decide +kernel
theorem d8_63 : decode jdk_2323_method_8_code 63 = .ok (.ldc2_w 172, 3) := by decide +kernel
theorem d8_66 : decode jdk_2323_method_8_code 66 = .ok (.ladd, 1) := by decide +kernel
theorem d8_67 : decode jdk_2323_method_8_code 67 = .ok (.ldc2_w 168, 3) := by decide +kernel
theorem d8_70 : decode jdk_2323_method_8_code 70 = .ok (.ldiv, 1) := by decide +kernel
theorem d8_71 : decode jdk_2323_method_8_code 71 = .ok (.lstore 6, 2) := by decide +kernel
theorem d8_29 : decode jdk_2323_method_8_code 29 = .ok (.lload_n 2, 1) := by decide +kernel
theorem d8_30 : decode jdk_2323_method_8_code 30 = .ok (.lconst 1, 1) := by decide +kernel
theorem d8_31 : decode jdk_2323_method_8_code 31 = .ok (.ladd, 1) := by decide +kernel
theorem d8_32 : decode jdk_2323_method_8_code 32 = .ok (.ldc2_w 168, 3) := by decide +kernel
theorem d8_35 : decode jdk_2323_method_8_code 35 = .ok (.ldiv, 1) := by decide +kernel
theorem d8_36 : decode jdk_2323_method_8_code 36 = .ok (.lconst 1, 1) := by decide +kernel
theorem d8_37 : decode jdk_2323_method_8_code 37 = .ok (.lsub, 1) := by decide +kernel
theorem d8_38 : decode jdk_2323_method_8_code 38 = .ok (.lstore 6, 2) := by decide +kernel
theorem d8_40 : decode jdk_2323_method_8_code 40 = .ok (.lload 6, 2) := by decide +kernel
theorem d8_42 : decode jdk_2323_method_8_code 42 = .ok (.ldc2_w 170, 3) := by decide +kernel
theorem d8_45 : decode jdk_2323_method_8_code 45 = .ok (.lmul, 1) := by decide +kernel
theorem d8_46 : decode jdk_2323_method_8_code 46 = .ok (.lstore 4, 2) := by decide +kernel
theorem d8_48 : decode jdk_2323_method_8_code 48 = .ok (.lload_n 2, 1) := by decide +kernel
theorem d8_49 : decode jdk_2323_method_8_code 49 = .ok (.lload 6, 2) := by decide +kernel
theorem d8_51 : decode jdk_2323_method_8_code 51 = .ok (.lneg, 1) := by decide +kernel
theorem d8_52 : decode jdk_2323_method_8_code 52 = .ok (.ldc2_w 168, 3) := by decide +kernel
theorem d8_55 : decode jdk_2323_method_8_code 55 = .ok (.lmul, 1) := by decide +kernel
theorem d8_56 : decode jdk_2323_method_8_code 56 = .ok (.ladd, 1) := by decide +kernel
theorem d8_57 : decode jdk_2323_method_8_code 57 = .ok (.lstore_n 2, 1) := by decide +kernel
theorem d8_73 : decode jdk_2323_method_8_code 73 = .ok (.lload_n 2, 1) := by decide +kernel
theorem d8_74 : decode jdk_2323_method_8_code 74 = .ok (.ldc2_w 174, 3) := by decide +kernel
theorem d8_77 : decode jdk_2323_method_8_code 77 = .ok (.lload 6, 2) := by decide +kernel
theorem d8_79 : decode jdk_2323_method_8_code 79 = .ok (.lmul, 1) := by decide +kernel
theorem d8_80 : decode jdk_2323_method_8_code 80 = .ok (.lload 6, 2) := by decide +kernel
theorem d8_82 : decode jdk_2323_method_8_code 82 = .ok (.ldc2_w 176, 3) := by decide +kernel
theorem d8_85 : decode jdk_2323_method_8_code 85 = .ok (.ldiv, 1) := by decide +kernel
theorem d8_86 : decode jdk_2323_method_8_code 86 = .ok (.ladd, 1) := by decide +kernel
theorem d8_87 : decode jdk_2323_method_8_code 87 = .ok (.lload 6, 2) := by decide +kernel
theorem d8_89 : decode jdk_2323_method_8_code 89 = .ok (.ldc2_w 178, 3) := by decide +kernel
theorem d8_92 : decode jdk_2323_method_8_code 92 = .ok (.ldiv, 1) := by decide +kernel
theorem d8_93 : decode jdk_2323_method_8_code 93 = .ok (.lsub, 1) := by decide +kernel
theorem d8_94 : decode jdk_2323_method_8_code 94 = .ok (.lload 6, 2) := by decide +kernel
theorem d8_96 : decode jdk_2323_method_8_code 96 = .ok (.ldc2_w 170, 3) := by decide +kernel
theorem d8_99 : decode jdk_2323_method_8_code 99 = .ok (.ldiv, 1) := by decide +kernel
theorem d8_100 : decode jdk_2323_method_8_code 100 = .ok (.ladd, 1) := by decide +kernel
theorem d8_101 : decode jdk_2323_method_8_code 101 = .ok (.lsub, 1) := by decide +kernel
theorem d8_102 : decode jdk_2323_method_8_code 102 = .ok (.lstore 8, 2) := by decide +kernel
theorem d8_104 : decode jdk_2323_method_8_code 104 = .ok (.lload 8, 2) := by decide +kernel
theorem d8_106 : decode jdk_2323_method_8_code 106 = .ok (.lconst 0, 1) := by decide +kernel
theorem d8_107 : decode jdk_2323_method_8_code 107 = .ok (.lcmp, 1) := by decide +kernel
theorem d8_108 : decode jdk_2323_method_8_code 108 = .ok (.ifCond .ge 40, 3) := by decide +kernel
theorem d8_111 : decode jdk_2323_method_8_code 111 = .ok (.lload 6, 2) := by decide +kernel
theorem d8_113 : decode jdk_2323_method_8_code 113 = .ok (.lconst 1, 1) := by decide +kernel
theorem d8_114 : decode jdk_2323_method_8_code 114 = .ok (.lsub, 1) := by decide +kernel
theorem d8_115 : decode jdk_2323_method_8_code 115 = .ok (.lstore 6, 2) := by decide +kernel
theorem d8_117 : decode jdk_2323_method_8_code 117 = .ok (.lload_n 2, 1) := by decide +kernel
theorem d8_118 : decode jdk_2323_method_8_code 118 = .ok (.ldc2_w 174, 3) := by decide +kernel
theorem d8_121 : decode jdk_2323_method_8_code 121 = .ok (.lload 6, 2) := by decide +kernel
theorem d8_123 : decode jdk_2323_method_8_code 123 = .ok (.lmul, 1) := by decide +kernel
theorem d8_124 : decode jdk_2323_method_8_code 124 = .ok (.lload 6, 2) := by decide +kernel
theorem d8_126 : decode jdk_2323_method_8_code 126 = .ok (.ldc2_w 176, 3) := by decide +kernel
theorem d8_129 : decode jdk_2323_method_8_code 129 = .ok (.ldiv, 1) := by decide +kernel
theorem d8_130 : decode jdk_2323_method_8_code 130 = .ok (.ladd, 1) := by decide +kernel
theorem d8_131 : decode jdk_2323_method_8_code 131 = .ok (.lload 6, 2) := by decide +kernel
theorem d8_133 : decode jdk_2323_method_8_code 133 = .ok (.ldc2_w 178, 3) := by decide +kernel
theorem d8_136 : decode jdk_2323_method_8_code 136 = .ok (.ldiv, 1) := by decide +kernel
theorem d8_137 : decode jdk_2323_method_8_code 137 = .ok (.lsub, 1) := by decide +kernel
theorem d8_138 : decode jdk_2323_method_8_code 138 = .ok (.lload 6, 2) := by decide +kernel
theorem d8_140 : decode jdk_2323_method_8_code 140 = .ok (.ldc2_w 170, 3) := by decide +kernel
theorem d8_143 : decode jdk_2323_method_8_code 143 = .ok (.ldiv, 1) := by decide +kernel
theorem d8_144 : decode jdk_2323_method_8_code 144 = .ok (.ladd, 1) := by decide +kernel
theorem d8_145 : decode jdk_2323_method_8_code 145 = .ok (.lsub, 1) := by decide +kernel
theorem d8_146 : decode jdk_2323_method_8_code 146 = .ok (.lstore 8, 2) := by decide +kernel
theorem d8_148 : decode jdk_2323_method_8_code 148 = .ok (.lload 6, 2) := by decide +kernel
theorem d8_150 : decode jdk_2323_method_8_code 150 = .ok (.lload 4, 2) := by decide +kernel
theorem d8_152 : decode jdk_2323_method_8_code 152 = .ok (.ladd, 1) := by decide +kernel
theorem d8_153 : decode jdk_2323_method_8_code 153 = .ok (.lstore 6, 2) := by decide +kernel
theorem d8_155 : decode jdk_2323_method_8_code 155 = .ok (.lload 8, 2) := by decide +kernel
theorem d8_157 : decode jdk_2323_method_8_code 157 = .ok (.l2i, 1) := by decide +kernel
theorem d8_158 : decode jdk_2323_method_8_code 158 = .ok (.istore 10, 2) := by decide +kernel
theorem d8_160 : decode jdk_2323_method_8_code 160 = .ok (.iload 10, 2) := by decide +kernel
theorem d8_162 : decode jdk_2323_method_8_code 162 = .ok (.iconst 5, 1) := by decide +kernel
theorem d8_163 : decode jdk_2323_method_8_code 163 = .ok (.imul, 1) := by decide +kernel
theorem d8_164 : decode jdk_2323_method_8_code 164 = .ok (.iconst 2, 1) := by decide +kernel
theorem d8_165 : decode jdk_2323_method_8_code 165 = .ok (.iadd, 1) := by decide +kernel
theorem d8_166 : decode jdk_2323_method_8_code 166 = .ok (.sipush 153, 3) := by decide +kernel
theorem d8_169 : decode jdk_2323_method_8_code 169 = .ok (.idiv, 1) := by decide +kernel
theorem d8_170 : decode jdk_2323_method_8_code 170 = .ok (.istore 11, 2) := by decide +kernel
theorem d8_172 : decode jdk_2323_method_8_code 172 = .ok (.iload 11, 2) := by decide +kernel
theorem d8_174 : decode jdk_2323_method_8_code 174 = .ok (.iconst 3, 1) := by decide +kernel
theorem d8_175 : decode jdk_2323_method_8_code 175 = .ok (.iadd, 1) := by decide +kernel
theorem d8_176 : decode jdk_2323_method_8_code 176 = .ok (.istore 12, 2) := by decide +kernel
theorem d8_178 : decode jdk_2323_method_8_code 178 = .ok (.iload 12, 2) := by decide +kernel
theorem d8_180 : decode jdk_2323_method_8_code 180 = .ok (.bipush 12, 2) := by decide +kernel
theorem d8_182 : decode jdk_2323_method_8_code 182 = .ok (.if_icmp .le 6, 3) := by decide +kernel
theorem d8_185 : decode jdk_2323_method_8_code 185 = .ok (.iinc 12 (-12), 3) := by decide +kernel
theorem d8_188 : decode jdk_2323_method_8_code 188 = .ok (.iload 10, 2) := by decide +kernel
theorem d8_190 : decode jdk_2323_method_8_code 190 = .ok (.iload 11, 2) := by decide +kernel
theorem d8_192 : decode jdk_2323_method_8_code 192 = .ok (.sipush 306, 3) := by decide +kernel
theorem d8_195 : decode jdk_2323_method_8_code 195 = .ok (.imul, 1) := by decide +kernel
theorem d8_196 : decode jdk_2323_method_8_code 196 = .ok (.iconst 5, 1) := by decide +kernel
theorem d8_197 : decode jdk_2323_method_8_code 197 = .ok (.iadd, 1) := by decide +kernel
theorem d8_198 : decode jdk_2323_method_8_code 198 = .ok (.bipush 10, 2) := by decide +kernel
theorem d8_200 : decode jdk_2323_method_8_code 200 = .ok (.idiv, 1) := by decide +kernel
theorem d8_201 : decode jdk_2323_method_8_code 201 = .ok (.isub, 1) := by decide +kernel
theorem d8_202 : decode jdk_2323_method_8_code 202 = .ok (.iconst 1, 1) := by decide +kernel
theorem d8_203 : decode jdk_2323_method_8_code 203 = .ok (.iadd, 1) := by decide +kernel
theorem d8_204 : decode jdk_2323_method_8_code 204 = .ok (.istore 13, 2) := by decide +kernel
theorem d8_206 : decode jdk_2323_method_8_code 206 = .ok (.iload 10, 2) := by decide +kernel
theorem d8_208 : decode jdk_2323_method_8_code 208 = .ok (.sipush 306, 3) := by decide +kernel
theorem d8_211 : decode jdk_2323_method_8_code 211 = .ok (.if_icmp .lt 9, 3) := by decide +kernel
theorem d8_214 : decode jdk_2323_method_8_code 214 = .ok (.lload 6, 2) := by decide +kernel
theorem d8_216 : decode jdk_2323_method_8_code 216 = .ok (.lconst 1, 1) := by decide +kernel
theorem d8_217 : decode jdk_2323_method_8_code 217 = .ok (.ladd, 1) := by decide +kernel
theorem d8_218 : decode jdk_2323_method_8_code 218 = .ok (.lstore 6, 2) := by decide +kernel
theorem d8_220 : decode jdk_2323_method_8_code 220 = .ok (.new 1, 3) := by decide +kernel
theorem d8_223 : decode jdk_2323_method_8_code 223 = .ok (.dup, 1) := by decide +kernel
theorem d8_224 : decode jdk_2323_method_8_code 224 = .ok (.lload 6, 2) := by decide +kernel
theorem d8_226 : decode jdk_2323_method_8_code 226 = .ok (.l2i, 1) := by decide +kernel
theorem d8_227 : decode jdk_2323_method_8_code 227 = .ok (.iload 12, 2) := by decide +kernel
theorem d8_229 : decode jdk_2323_method_8_code 229 = .ok (.iload 13, 2) := by decide +kernel
theorem d8_231 : decode jdk_2323_method_8_code 231 = .ok (.invokespecial 121, 3) := by decide +kernel
theorem pd_5 : parseMethodDescriptor "(III)V" = some ⟨[.int, .int, .int], none⟩ := by decide +kernel
theorem d8_234 : decode jdk_2323_method_8_code 234 = .ok (.areturn, 1) := by decide +kernel
theorem ef_rmOE (m : MethodId) (x0 : Int64) : entryFrame m #[(.long x0)] 14 = mkF m 0 #[.val (.long x0), .second, .unset, .unset, .unset, .unset, .unset, .unset, .unset, .unset, .unset, .unset, .unset, .unset] [] := by first | (simp [entryFrame, mkF, argsToLocals, Value.category]; done) | rfl
set_option maxRecDepth 65536 in
set_option maxHeartbeats 40000000 in
theorem rmOE (l : Launch) (Z : State) (a0 : Array Value) (hw : ∀ d ∈ tables_1, d.before a0 Z = true) (ws : List Jvm.Cond) (d : Int64) (cf rg iso : Addr) (h0 : Heap) (n0 : Nat) (Z0 : n0 ≤ h0.size) (O0 : Old Z n0 h0) (SEp : Sta Z Z.heap "java/time/temporal/ChronoField" "EPOCH_DAY" "Ljava/time/temporal/ChronoField;" (.ref cf)) (Ecf : Exa Z Z.heap cf "java/time/temporal/ChronoField") (Frg : Fld Z Z.heap cf "java/time/temporal/ChronoField" "range" "Ljava/time/temporal/ValueRange;" (.ref rg)) (Erg : Exa Z Z.heap rg "java/time/temporal/ValueRange") (Fmn : Fld Z Z.heap rg "java/time/temporal/ValueRange" "minSmallest" "J" (.long (-365243219162 : Int64))) (Fmx : Fld Z Z.heap rg "java/time/temporal/ValueRange" "maxLargest" "J" (.long (365241780471 : Int64))) (SIn : Sta Z Z.heap "java/time/chrono/IsoChronology" "INSTANCE" "Ljava/time/chrono/IsoChronology;" (.ref iso)) (Eis : Exa Z Z.heap iso "java/time/chrono/IsoChronology") (hd : -100000200000 ≤ d.toInt ∧ d.toInt ≤ 100000200000) :
    MetFree l (⟨"java/time/LocalDate", "ofEpochDay", "(J)Ljava/time/LocalDate;"⟩ : MethodName) (head1 (Jvm.Cond.code (⟨"java/time/LocalDate", "ofEpochDay", "(J)Ljava/time/LocalDate;"⟩ : MethodName) jdk_2323_method_8_code 14 (some (.object "java/time/LocalDate")) :: ws) ({ frames := 4, cells := 1, slots := 3, locals := 57 } : Room)) (fun a_ U_ => a_ = #[(.long d)] ∧ Z.Warmed39 U_.vm ∧ U_.heap = h0) (fun _ _ _ _ _ => True) (fun _ U_ o_ U'_ => ∃ v_ L_, o_ = .returned v_ ∧ QLD Z d h0 n0 v_ U'_.heap L_ ∧ FrameEnd U_ o_ U'_ L_ ({ frames := 4, cells := 1, slots := 3, locals := 57 } : Room).cells ({ frames := 4, cells := 1, slots := 3, locals := 57 } : Room).slots) := by
  refine MetFree.of_bodySF (plainFor_of_name pn_2) hisR ?_
  intro p e s m args below meth c s₁ Bd hml0 hP hK
  obtain ⟨rfl, hZ, hh⟩ := hP
  have hx := Bd.exec
  have hby := Bd.bytes
  have hml : c.maxLocals = 14 := hml0
  have hown : s.vm.findClass "java/time/LocalDate" = some m.cls := findClass_of_methodNamed Bd.named
  have hnm := (name_of_methodNamed Bd.named Bd.method).1
  have hlk := BodyLoose.notSynchronized Bd
  have X0 : Stand p l e ({ frames := 4, cells := 1, slots := 3, locals := 57 } : Room) s m #[(.long d)] below meth c s₁ [] 0 0 := Stand.of_body Bd
  have e0 : s₁.heap = h0 := by rw [← hh, Bd.state]; rfl
  have N0 := Fr.nil n0
  refine own_entry (P := own_End s (QLD Z d h0 n0) ({ frames := 4, cells := 1, slots := 3, locals := 57 } : Room).cells ({ frames := 4, cells := 1, slots := 3, locals := 57 } : Room).slots) (ef_rmOE m d) ?_
  show own_Go p e below _ s₁ (mkF m 0 #[.val (.long d), .second, .unset, .unset, .unset, .unset, .unset, .unset, .unset, .unset, .unset, .unset, .unset, .unset] [])
  have c1_ := Exa.ext O0.2 Ecf
  have c2_ := Fld.ext O0.2 Frg
  have c3_ := Exa.ext O0.2 Erg
  have c4_ := Fld.ext O0.2 Fmn
  have c5_ := Fld.ext O0.2 Fmx
  have c6_ := Exa.ext O0.2 Eis
  obtain ⟨T1, X1, e1, st1⟩ := getS2 X0 hx hZ hown (host := "") (Or.inl (hw _ (List.mem_of_getElem? (i := 6) rfl))) Via.refl e0 (Sta.ext O0.2 SEp) (g := (mkF m 0 #[.val (.long d), .second, .unset, .unset, .unset, .unset, .unset, .unset, .unset, .unset, .unset, .unset, .unset, .unset] [])) rfl (hb hby d8_0)
  refine own_st st1 ?_
  show own_Go p e below _ T1 (mkF m 3 #[.val (.long d), .second, .unset, .unset, .unset, .unset, .unset, .unset, .unset, .unset, .unset, .unset, .unset, .unset] [(.ref cf)])
  refine own_st (fun t_ k_ => XS.lloadN X1.here hx rfl (hb hby d8_3) rfl k_) ?_
  show own_Go p e below _ T1 (mkF m 4 #[.val (.long d), .second, .unset, .unset, .unset, .unset, .unset, .unset, .unset, .unset, .unset, .unset, .unset, .unset] [(.long d), (.ref cf)])
  obtain ⟨cq3, kq3, q3a, q3b, q3c⟩ := isOf hZ e1 c1_
  refine own_callV X1 hx (y := (⟨"java/time/temporal/ChronoField", "checkValidValue", "(J)J"⟩ : MethodName)) (z := (⟨"java/time/temporal/ChronoField", "checkValidValue", "(J)J"⟩ : MethodName)) hown (mvT hZ (hw _ (List.mem_of_getElem? (i := 8) rfl))) (mvT hZ (hw _ (List.mem_of_getElem? (i := 9) rfl))) (notFace_of_selects (args := #[]) (mvT hZ (hw _ (List.mem_of_getElem? (i := 11) rfl)))) (mvT hZ (hw _ (List.mem_of_getElem? (i := 11) rfl))) (mvT hZ (hw _ (List.mem_of_getElem? (i := 10) rfl))) (by decide) (backOf (W := 0) (rmCC l Z a0 hw [] d cf rg iso h0 n0 (Nat.le_trans Z0 (Keep.refl h0 []).1) O0 SEp Ecf Frg Erg Fmn Fmx SIn Eis hd) hZ (hw _ (List.mem_of_getElem? (i := 12) rfl)) (hw _ (List.mem_of_getElem? (i := 7) rfl)) (by decide) (by decide)) q3a q3c (g := (mkF m 4 #[.val (.long d), .second, .unset, .unset, .unset, .unset, .unset, .unset, .unset, .unset, .unset, .unset, .unset, .unset] [(.long d), (.ref cf)])) rfl (by rw [hml]; rfl) (argsL := [(.long d)]) (rest := []) (lenOf pd_4 rfl) rfl (by show 2 * 0 + _ ≤ _; exact Nat.le_of_eq rfl) (hb hby d8_4) rfl e1 (by decide) (by decide) ?_
  rintro v2 T2 L2 X2 ⟨rfl, Nq2, hh2⟩
  have N2 := Fr.app N0 Nq2
  show own_Go p e below _ T2 (mkF m 7 #[.val (.long d), .second, .unset, .unset, .unset, .unset, .unset, .unset, .unset, .unset, .unset, .unset, .unset, .unset] [(.long d)])
  refine own_st (fun t_ k_ => own_pop2 X2.here hx rfl (hb hby d8_7) rfl k_) ?_
  show own_Go p e below _ T2 (mkF m 8 #[.val (.long d), .second, .unset, .unset, .unset, .unset, .unset, .unset, .unset, .unset, .unset, .unset, .unset, .unset] [])
  refine own_st (fun t_ k_ => XS.lloadN X2.here hx rfl (hb hby d8_8) rfl k_) ?_
  show own_Go p e below _ T2 (mkF m 9 #[.val (.long d), .second, .unset, .unset, .unset, .unset, .unset, .unset, .unset, .unset, .unset, .unset, .unset, .unset] [(.long d)])
  refine own_st (fun t_ k_ => X2.ldc2J hx hown (mvT hZ (hw _ (List.mem_of_getElem? (i := 45) rfl))) rfl (hb hby d8_9) k_) ?_
  show own_Go p e below _ T2 (mkF m 12 #[.val (.long d), .second, .unset, .unset, .unset, .unset, .unset, .unset, .unset, .unset, .unset, .unset, .unset, .unset] [(.long (719528 : Int64)), (.long d)])
  refine own_st (fun t_ k_ => XS.ladd X2.here hx rfl (hb hby d8_12) rfl k_) ?_
  show own_Go p e below _ T2 (mkF m 13 #[.val (.long d), .second, .unset, .unset, .unset, .unset, .unset, .unset, .unset, .unset, .unset, .unset, .unset, .unset] [(.long (d + (719528 : Int64)))])
  refine own_st (fun t_ k_ => XS.lstoreN X2.here hx rfl (hb hby d8_13) rfl (l' := #[.val (.long d), .second, .val (.long (d + (719528 : Int64))), .second, .unset, .unset, .unset, .unset, .unset, .unset, .unset, .unset, .unset, .unset]) rfl k_) ?_
  show own_Go p e below _ T2 (mkF m 14 #[.val (.long d), .second, .val (.long (d + (719528 : Int64))), .second, .unset, .unset, .unset, .unset, .unset, .unset, .unset, .unset, .unset, .unset] [])
  refine own_st (fun t_ k_ => XS.lloadN X2.here hx rfl (hb hby d8_14) rfl k_) ?_
  show own_Go p e below _ T2 (mkF m 15 #[.val (.long d), .second, .val (.long (d + (719528 : Int64))), .second, .unset, .unset, .unset, .unset, .unset, .unset, .unset, .unset, .unset, .unset] [(.long (d + (719528 : Int64)))])
  refine own_st (fun t_ k_ => X2.ldc2J hx hown (mvT hZ (hw _ (List.mem_of_getElem? (i := 46) rfl))) rfl (hb hby d8_15) k_) ?_
  show own_Go p e below _ T2 (mkF m 18 #[.val (.long d), .second, .val (.long (d + (719528 : Int64))), .second, .unset, .unset, .unset, .unset, .unset, .unset, .unset, .unset, .unset, .unset] [(.long (60 : Int64)), (.long (d + (719528 : Int64)))])
  refine own_st (fun t_ k_ => XS.lsub X2.here hx rfl (hb hby d8_18) rfl k_) ?_
  show own_Go p e below _ T2 (mkF m 19 #[.val (.long d), .second, .val (.long (d + (719528 : Int64))), .second, .unset, .unset, .unset, .unset, .unset, .unset, .unset, .unset, .unset, .unset] [(.long ((d + (719528 : Int64)) - (60 : Int64)))])
  have d_zz : ((d + (719528 : Int64)) - (60 : Int64)).toInt = d.toInt + 719468 := own_c1 d hd
  generalize h_zz : ((d + (719528 : Int64)) - (60 : Int64)) = zz at d_zz ⊢
  show own_Go p e below _ T2 (mkF m 19 #[.val (.long d), .second, .val (.long (d + (719528 : Int64))), .second, .unset, .unset, .unset, .unset, .unset, .unset, .unset, .unset, .unset, .unset] [(.long zz)])
  refine own_st (fun t_ k_ => XS.lstoreN X2.here hx rfl (hb hby d8_19) rfl (l' := #[.val (.long d), .second, .val (.long zz), .second, .unset, .unset, .unset, .unset, .unset, .unset, .unset, .unset, .unset, .unset]) rfl k_) ?_
  show own_Go p e below _ T2 (mkF m 20 #[.val (.long d), .second, .val (.long zz), .second, .unset, .unset, .unset, .unset, .unset, .unset, .unset, .unset, .unset, .unset] [])
  refine own_st (fun t_ k_ => XS.lconst X2.here hx rfl (hb hby d8_20) k_) ?_
  show own_Go p e below _ T2 (mkF m 21 #[.val (.long d), .second, .val (.long zz), .second, .unset, .unset, .unset, .unset, .unset, .unset, .unset, .unset, .unset, .unset] [(.long (0 : Int64))])
  refine own_st (fun t_ k_ => XS.lstore X2.here hx rfl (hb hby d8_21) rfl (l' := #[.val (.long d), .second, .val (.long zz), .second, .val (.long (0 : Int64)), .second, .unset, .unset, .unset, .unset, .unset, .unset, .unset, .unset]) rfl k_) ?_
  show own_Go p e below _ T2 (mkF m 23 #[.val (.long d), .second, .val (.long zz), .second, .val (.long (0 : Int64)), .second, .unset, .unset, .unset, .unset, .unset, .unset, .unset, .unset] [])
  refine own_st (fun t_ k_ => XS.lloadN X2.here hx rfl (hb hby d8_23) rfl k_) ?_
  show own_Go p e below _ T2 (mkF m 24 #[.val (.long d), .second, .val (.long zz), .second, .val (.long (0 : Int64)), .second, .unset, .unset, .unset, .unset, .unset, .unset, .unset, .unset] [(.long zz)])
  refine own_st (fun t_ k_ => XS.lconst X2.here hx rfl (hb hby d8_24) k_) ?_
  show own_Go p e below _ T2 (mkF m 25 #[.val (.long d), .second, .val (.long zz), .second, .val (.long (0 : Int64)), .second, .unset, .unset, .unset, .unset, .unset, .unset, .unset, .unset] [(.long (0 : Int64)), (.long zz)])
  refine own_st (fun t_ k_ => XS.lcmp X2.here hx rfl (hb hby d8_25) rfl k_) ?_
  show own_Go p e below _ T2 (mkF m 26 #[.val (.long d), .second, .val (.long zz), .second, .val (.long (0 : Int64)), .second, .unset, .unset, .unset, .unset, .unset, .unset, .unset, .unset] [(.int (lcmpW zz (0 : Int64)))])
  refine own_join (α := Int64 × Int64 × Int64) (F := fun oo => own_P d oo) (T' := T2) (g' := fun oo => (mkF m 73 #[.val (.long d), .second, .val (.long oo.1), .second, .val (.long oo.2.1), .second, .val (.long oo.2.2), .second, .unset, .unset, .unset, .unset, .unset, .unset] [])) (fun oo h_oo => ?_) (fun J_oo => ?_)
  · show own_Go p e below _ T2 (mkF m 73 #[.val (.long d), .second, .val (.long oo.1), .second, .val (.long oo.2.1), .second, .val (.long oo.2.2), .second, .unset, .unset, .unset, .unset, .unset, .unset] [])
    obtain ⟨z2, adj, ye⟩ := oo
    simp only [own_P] at h_oo
    obtain ⟨kk, hk1, hk2, hk3, hk4, hk5, hk6, hk7⟩ := h_oo
    show own_Go p e below _ T2 (mkF m 73 #[.val (.long d), .second, .val (.long z2), .second, .val (.long adj), .second, .val (.long ye), .second, .unset, .unset, .unset, .unset, .unset, .unset] [])
    refine own_st (fun t_ k_ => XS.lloadN X2.here hx rfl (hb hby d8_73) rfl k_) ?_
    show own_Go p e below _ T2 (mkF m 74 #[.val (.long d), .second, .val (.long z2), .second, .val (.long adj), .second, .val (.long ye), .second, .unset, .unset, .unset, .unset, .unset, .unset] [(.long z2)])
    refine own_st (fun t_ k_ => X2.ldc2J hx hown (mvT hZ (hw _ (List.mem_of_getElem? (i := 50) rfl))) rfl (hb hby d8_74) k_) ?_
    show own_Go p e below _ T2 (mkF m 77 #[.val (.long d), .second, .val (.long z2), .second, .val (.long adj), .second, .val (.long ye), .second, .unset, .unset, .unset, .unset, .unset, .unset] [(.long (365 : Int64)), (.long z2)])
    refine own_st (fun t_ k_ => XS.lload X2.here hx rfl (hb hby d8_77) rfl k_) ?_
    show own_Go p e below _ T2 (mkF m 79 #[.val (.long d), .second, .val (.long z2), .second, .val (.long adj), .second, .val (.long ye), .second, .unset, .unset, .unset, .unset, .unset, .unset] [(.long ye), (.long (365 : Int64)), (.long z2)])
    refine own_st (fun t_ k_ => XS.lmul X2.here hx rfl (hb hby d8_79) rfl k_) ?_
    show own_Go p e below _ T2 (mkF m 80 #[.val (.long d), .second, .val (.long z2), .second, .val (.long adj), .second, .val (.long ye), .second, .unset, .unset, .unset, .unset, .unset, .unset] [(.long ((365 : Int64) * ye)), (.long z2)])
    refine own_st (fun t_ k_ => XS.lload X2.here hx rfl (hb hby d8_80) rfl k_) ?_
    show own_Go p e below _ T2 (mkF m 82 #[.val (.long d), .second, .val (.long z2), .second, .val (.long adj), .second, .val (.long ye), .second, .unset, .unset, .unset, .unset, .unset, .unset] [(.long ye), (.long ((365 : Int64) * ye)), (.long z2)])
    refine own_st (fun t_ k_ => X2.ldc2J hx hown (mvT hZ (hw _ (List.mem_of_getElem? (i := 51) rfl))) rfl (hb hby d8_82) k_) ?_
    show own_Go p e below _ T2 (mkF m 85 #[.val (.long d), .second, .val (.long z2), .second, .val (.long adj), .second, .val (.long ye), .second, .unset, .unset, .unset, .unset, .unset, .unset] [(.long (4 : Int64)), (.long ye), (.long ((365 : Int64) * ye)), (.long z2)])
    refine own_st (fun t_ k_ => XS.ldiv X2.here hx rfl (hb hby d8_85) rfl (by decide) k_) ?_
    show own_Go p e below _ T2 (mkF m 86 #[.val (.long d), .second, .val (.long z2), .second, .val (.long adj), .second, .val (.long ye), .second, .unset, .unset, .unset, .unset, .unset, .unset] [(.long (ye / (4 : Int64))), (.long ((365 : Int64) * ye)), (.long z2)])
    refine own_st (fun t_ k_ => XS.ladd X2.here hx rfl (hb hby d8_86) rfl k_) ?_
    show own_Go p e below _ T2 (mkF m 87 #[.val (.long d), .second, .val (.long z2), .second, .val (.long adj), .second, .val (.long ye), .second, .unset, .unset, .unset, .unset, .unset, .unset] [(.long (((365 : Int64) * ye) + (ye / (4 : Int64)))), (.long z2)])
    refine own_st (fun t_ k_ => XS.lload X2.here hx rfl (hb hby d8_87) rfl k_) ?_
    show own_Go p e below _ T2 (mkF m 89 #[.val (.long d), .second, .val (.long z2), .second, .val (.long adj), .second, .val (.long ye), .second, .unset, .unset, .unset, .unset, .unset, .unset] [(.long ye), (.long (((365 : Int64) * ye) + (ye / (4 : Int64)))), (.long z2)])
    refine own_st (fun t_ k_ => X2.ldc2J hx hown (mvT hZ (hw _ (List.mem_of_getElem? (i := 52) rfl))) rfl (hb hby d8_89) k_) ?_
    show own_Go p e below _ T2 (mkF m 92 #[.val (.long d), .second, .val (.long z2), .second, .val (.long adj), .second, .val (.long ye), .second, .unset, .unset, .unset, .unset, .unset, .unset] [(.long (100 : Int64)), (.long ye), (.long (((365 : Int64) * ye) + (ye / (4 : Int64)))), (.long z2)])
    refine own_st (fun t_ k_ => XS.ldiv X2.here hx rfl (hb hby d8_92) rfl (by decide) k_) ?_
    show own_Go p e below _ T2 (mkF m 93 #[.val (.long d), .second, .val (.long z2), .second, .val (.long adj), .second, .val (.long ye), .second, .unset, .unset, .unset, .unset, .unset, .unset] [(.long (ye / (100 : Int64))), (.long (((365 : Int64) * ye) + (ye / (4 : Int64)))), (.long z2)])
    refine own_st (fun t_ k_ => XS.lsub X2.here hx rfl (hb hby d8_93) rfl k_) ?_
    show own_Go p e below _ T2 (mkF m 94 #[.val (.long d), .second, .val (.long z2), .second, .val (.long adj), .second, .val (.long ye), .second, .unset, .unset, .unset, .unset, .unset, .unset] [(.long ((((365 : Int64) * ye) + (ye / (4 : Int64))) - (ye / (100 : Int64)))), (.long z2)])
    refine own_st (fun t_ k_ => XS.lload X2.here hx rfl (hb hby d8_94) rfl k_) ?_
    show own_Go p e below _ T2 (mkF m 96 #[.val (.long d), .second, .val (.long z2), .second, .val (.long adj), .second, .val (.long ye), .second, .unset, .unset, .unset, .unset, .unset, .unset] [(.long ye), (.long ((((365 : Int64) * ye) + (ye / (4 : Int64))) - (ye / (100 : Int64)))), (.long z2)])
    refine own_st (fun t_ k_ => X2.ldc2J hx hown (mvT hZ (hw _ (List.mem_of_getElem? (i := 47) rfl))) rfl (hb hby d8_96) k_) ?_
    show own_Go p e below _ T2 (mkF m 99 #[.val (.long d), .second, .val (.long z2), .second, .val (.long adj), .second, .val (.long ye), .second, .unset, .unset, .unset, .unset, .unset, .unset] [(.long (400 : Int64)), (.long ye), (.long ((((365 : Int64) * ye) + (ye / (4 : Int64))) - (ye / (100 : Int64)))), (.long z2)])
    refine own_st (fun t_ k_ => XS.ldiv X2.here hx rfl (hb hby d8_99) rfl (by decide) k_) ?_
    show own_Go p e below _ T2 (mkF m 100 #[.val (.long d), .second, .val (.long z2), .second, .val (.long adj), .second, .val (.long ye), .second, .unset, .unset, .unset, .unset, .unset, .unset] [(.long (ye / (400 : Int64))), (.long ((((365 : Int64) * ye) + (ye / (4 : Int64))) - (ye / (100 : Int64)))), (.long z2)])
    refine own_st (fun t_ k_ => XS.ladd X2.here hx rfl (hb hby d8_100) rfl k_) ?_
    show own_Go p e below _ T2 (mkF m 101 #[.val (.long d), .second, .val (.long z2), .second, .val (.long adj), .second, .val (.long ye), .second, .unset, .unset, .unset, .unset, .unset, .unset] [(.long (((((365 : Int64) * ye) + (ye / (4 : Int64))) - (ye / (100 : Int64))) + (ye / (400 : Int64)))), (.long z2)])
    refine own_st (fun t_ k_ => XS.lsub X2.here hx rfl (hb hby d8_101) rfl k_) ?_
    show own_Go p e below _ T2 (mkF m 102 #[.val (.long d), .second, .val (.long z2), .second, .val (.long adj), .second, .val (.long ye), .second, .unset, .unset, .unset, .unset, .unset, .unset] [(.long (z2 - (((((365 : Int64) * ye) + (ye / (4 : Int64))) - (ye / (100 : Int64))) + (ye / (400 : Int64)))))])
    have d_dy : (z2 - (((((365 : Int64) * ye) + (ye / (4 : Int64))) - (ye / (100 : Int64))) + (ye / (400 : Int64)))).toInt = z2.toInt - own_F ye.toInt := own_dy z2 ye ⟨hk3, hk4⟩ (own_yeb ⟨hk3, hk4⟩ hk7)
    generalize h_dy : (z2 - (((((365 : Int64) * ye) + (ye / (4 : Int64))) - (ye / (100 : Int64))) + (ye / (400 : Int64)))) = dy at d_dy ⊢
    show own_Go p e below _ T2 (mkF m 102 #[.val (.long d), .second, .val (.long z2), .second, .val (.long adj), .second, .val (.long ye), .second, .unset, .unset, .unset, .unset, .unset, .unset] [(.long dy)])
    refine own_st (fun t_ k_ => XS.lstore X2.here hx rfl (hb hby d8_102) rfl (l' := #[.val (.long d), .second, .val (.long z2), .second, .val (.long adj), .second, .val (.long ye), .second, .val (.long dy), .second, .unset, .unset, .unset, .unset]) rfl k_) ?_
    show own_Go p e below _ T2 (mkF m 104 #[.val (.long d), .second, .val (.long z2), .second, .val (.long adj), .second, .val (.long ye), .second, .val (.long dy), .second, .unset, .unset, .unset, .unset] [])
    refine own_st (fun t_ k_ => XS.lload X2.here hx rfl (hb hby d8_104) rfl k_) ?_
    show own_Go p e below _ T2 (mkF m 106 #[.val (.long d), .second, .val (.long z2), .second, .val (.long adj), .second, .val (.long ye), .second, .val (.long dy), .second, .unset, .unset, .unset, .unset] [(.long dy)])
    refine own_st (fun t_ k_ => XS.lconst X2.here hx rfl (hb hby d8_106) k_) ?_
    show own_Go p e below _ T2 (mkF m 107 #[.val (.long d), .second, .val (.long z2), .second, .val (.long adj), .second, .val (.long ye), .second, .val (.long dy), .second, .unset, .unset, .unset, .unset] [(.long (0 : Int64)), (.long dy)])
    refine own_st (fun t_ k_ => XS.lcmp X2.here hx rfl (hb hby d8_107) rfl k_) ?_
    show own_Go p e below _ T2 (mkF m 108 #[.val (.long d), .second, .val (.long z2), .second, .val (.long adj), .second, .val (.long ye), .second, .val (.long dy), .second, .unset, .unset, .unset, .unset] [(.int (lcmpW dy (0 : Int64)))])
    refine own_join (α := Int64 × Int64) (F := fun oq => own_G z2.toInt oq) (T' := T2) (g' := fun oq => (mkF m 148 #[.val (.long d), .second, .val (.long z2), .second, .val (.long adj), .second, .val (.long oq.1), .second, .val (.long oq.2), .second, .unset, .unset, .unset, .unset] [])) (fun oq h_oq => ?_) (fun J_oq => ?_)
    · show own_Go p e below _ T2 (mkF m 148 #[.val (.long d), .second, .val (.long z2), .second, .val (.long adj), .second, .val (.long oq.1), .second, .val (.long oq.2), .second, .unset, .unset, .unset, .unset] [])
      obtain ⟨ex_, dz⟩ := oq
      simp only [own_G] at h_oq
      obtain ⟨g1_, g2_, g3_, g4_, g5_⟩ := h_oq
      show own_Go p e below _ T2 (mkF m 148 #[.val (.long d), .second, .val (.long z2), .second, .val (.long adj), .second, .val (.long ex_), .second, .val (.long dz), .second, .unset, .unset, .unset, .unset] [])
      refine own_st (fun t_ k_ => XS.lload X2.here hx rfl (hb hby d8_148) rfl k_) ?_
      show own_Go p e below _ T2 (mkF m 150 #[.val (.long d), .second, .val (.long z2), .second, .val (.long adj), .second, .val (.long ex_), .second, .val (.long dz), .second, .unset, .unset, .unset, .unset] [(.long ex_)])
      refine own_st (fun t_ k_ => XS.lload X2.here hx rfl (hb hby d8_150) rfl k_) ?_
      show own_Go p e below _ T2 (mkF m 152 #[.val (.long d), .second, .val (.long z2), .second, .val (.long adj), .second, .val (.long ex_), .second, .val (.long dz), .second, .unset, .unset, .unset, .unset] [(.long adj), (.long ex_)])
      refine own_st (fun t_ k_ => XS.ladd X2.here hx rfl (hb hby d8_152) rfl k_) ?_
      show own_Go p e below _ T2 (mkF m 153 #[.val (.long d), .second, .val (.long z2), .second, .val (.long adj), .second, .val (.long ex_), .second, .val (.long dz), .second, .unset, .unset, .unset, .unset] [(.long (ex_ + adj))])
      have d_ya : (ex_ + adj).toInt = ex_.toInt + 400 * kk := own_yA hk1 ⟨hk5, hk6⟩ ⟨g1_, g2_⟩
      generalize h_ya : (ex_ + adj) = ya at d_ya ⊢
      show own_Go p e below _ T2 (mkF m 153 #[.val (.long d), .second, .val (.long z2), .second, .val (.long adj), .second, .val (.long ex_), .second, .val (.long dz), .second, .unset, .unset, .unset, .unset] [(.long ya)])
      refine own_st (fun t_ k_ => XS.lstore X2.here hx rfl (hb hby d8_153) rfl (l' := #[.val (.long d), .second, .val (.long z2), .second, .val (.long adj), .second, .val (.long ya), .second, .val (.long dz), .second, .unset, .unset, .unset, .unset]) rfl k_) ?_
      show own_Go p e below _ T2 (mkF m 155 #[.val (.long d), .second, .val (.long z2), .second, .val (.long adj), .second, .val (.long ya), .second, .val (.long dz), .second, .unset, .unset, .unset, .unset] [])
      refine own_st (fun t_ k_ => XS.lload X2.here hx rfl (hb hby d8_155) rfl k_) ?_
      show own_Go p e below _ T2 (mkF m 157 #[.val (.long d), .second, .val (.long z2), .second, .val (.long adj), .second, .val (.long ya), .second, .val (.long dz), .second, .unset, .unset, .unset, .unset] [(.long dz)])
      refine own_st (fun t_ k_ => XS.l2i X2.here hx rfl (hb hby d8_157) rfl k_) ?_
      show own_Go p e below _ T2 (mkF m 158 #[.val (.long d), .second, .val (.long z2), .second, .val (.long adj), .second, .val (.long ya), .second, .val (.long dz), .second, .unset, .unset, .unset, .unset] [(.int (dz.toInt32))])
      have d_md : (dz.toInt32).toInt = dz.toInt := own_l2i dz ⟨Int.le_trans (by decide) g4_, Int.lt_of_le_of_lt g5_ (by decide)⟩
      generalize h_md : (dz.toInt32) = md at d_md ⊢
      show own_Go p e below _ T2 (mkF m 158 #[.val (.long d), .second, .val (.long z2), .second, .val (.long adj), .second, .val (.long ya), .second, .val (.long dz), .second, .unset, .unset, .unset, .unset] [(.int md)])
      have bm_ : 0 ≤ md.toInt ∧ md.toInt ≤ 365 := by rw [d_md]; exact ⟨g4_, g5_⟩
      refine own_st (fun t_ k_ => XS.istore X2.here hx rfl (hb hby d8_158) rfl (l' := #[.val (.long d), .second, .val (.long z2), .second, .val (.long adj), .second, .val (.long ya), .second, .val (.long dz), .second, .val (.int md), .unset, .unset, .unset]) rfl k_) ?_
      show own_Go p e below _ T2 (mkF m 160 #[.val (.long d), .second, .val (.long z2), .second, .val (.long adj), .second, .val (.long ya), .second, .val (.long dz), .second, .val (.int md), .unset, .unset, .unset] [])
      refine own_st (fun t_ k_ => XS.iload X2.here hx rfl (hb hby d8_160) rfl k_) ?_
      show own_Go p e below _ T2 (mkF m 162 #[.val (.long d), .second, .val (.long z2), .second, .val (.long adj), .second, .val (.long ya), .second, .val (.long dz), .second, .val (.int md), .unset, .unset, .unset] [(.int md)])
      refine own_st (fun t_ k_ => XS.iconst X2.here hx rfl (hb hby d8_162) k_) ?_
      show own_Go p e below _ T2 (mkF m 163 #[.val (.long d), .second, .val (.long z2), .second, .val (.long adj), .second, .val (.long ya), .second, .val (.long dz), .second, .val (.int md), .unset, .unset, .unset] [(.int (5 : Int32)), (.int md)])
      refine own_st (fun t_ k_ => XS.imul X2.here hx rfl (hb hby d8_163) rfl k_) ?_
      show own_Go p e below _ T2 (mkF m 164 #[.val (.long d), .second, .val (.long z2), .second, .val (.long adj), .second, .val (.long ya), .second, .val (.long dz), .second, .val (.int md), .unset, .unset, .unset] [(.int (md * (5 : Int32)))])
      refine own_st (fun t_ k_ => XS.iconst X2.here hx rfl (hb hby d8_164) k_) ?_
      show own_Go p e below _ T2 (mkF m 165 #[.val (.long d), .second, .val (.long z2), .second, .val (.long adj), .second, .val (.long ya), .second, .val (.long dz), .second, .val (.int md), .unset, .unset, .unset] [(.int (2 : Int32)), (.int (md * (5 : Int32)))])
      refine own_st (fun t_ k_ => XS.iadd X2.here hx rfl (hb hby d8_165) rfl k_) ?_
      show own_Go p e below _ T2 (mkF m 166 #[.val (.long d), .second, .val (.long z2), .second, .val (.long adj), .second, .val (.long ya), .second, .val (.long dz), .second, .val (.int md), .unset, .unset, .unset] [(.int ((md * (5 : Int32)) + (2 : Int32)))])
      refine own_st (fun t_ k_ => XS.sipush X2.here hx rfl (hb hby d8_166) k_) ?_
      show own_Go p e below _ T2 (mkF m 169 #[.val (.long d), .second, .val (.long z2), .second, .val (.long adj), .second, .val (.long ya), .second, .val (.long dz), .second, .val (.int md), .unset, .unset, .unset] [(.int (153 : Int32)), (.int ((md * (5 : Int32)) + (2 : Int32)))])
      refine own_st (fun t_ k_ => XS.idiv X2.here hx rfl (hb hby d8_169) rfl (by decide) k_) ?_
      show own_Go p e below _ T2 (mkF m 170 #[.val (.long d), .second, .val (.long z2), .second, .val (.long adj), .second, .val (.long ya), .second, .val (.long dz), .second, .val (.int md), .unset, .unset, .unset] [(.int (((md * (5 : Int32)) + (2 : Int32)) / (153 : Int32)))])
      have d_mm : (((md * (5 : Int32)) + (2 : Int32)) / (153 : Int32)).toInt = (5 * md.toInt + 2) / 153 := own_mm md bm_
      generalize h_mm : (((md * (5 : Int32)) + (2 : Int32)) / (153 : Int32)) = mm at d_mm ⊢
      show own_Go p e below _ T2 (mkF m 170 #[.val (.long d), .second, .val (.long z2), .second, .val (.long adj), .second, .val (.long ya), .second, .val (.long dz), .second, .val (.int md), .unset, .unset, .unset] [(.int mm)])
      have bmm_ : 0 ≤ mm.toInt ∧ mm.toInt ≤ 11 := by rw [d_mm]; exact own_mmb bm_
      refine own_st (fun t_ k_ => XS.istore X2.here hx rfl (hb hby d8_170) rfl (l' := #[.val (.long d), .second, .val (.long z2), .second, .val (.long adj), .second, .val (.long ya), .second, .val (.long dz), .second, .val (.int md), .val (.int mm), .unset, .unset]) rfl k_) ?_
      show own_Go p e below _ T2 (mkF m 172 #[.val (.long d), .second, .val (.long z2), .second, .val (.long adj), .second, .val (.long ya), .second, .val (.long dz), .second, .val (.int md), .val (.int mm), .unset, .unset] [])
      refine own_st (fun t_ k_ => XS.iload X2.here hx rfl (hb hby d8_172) rfl k_) ?_
      show own_Go p e below _ T2 (mkF m 174 #[.val (.long d), .second, .val (.long z2), .second, .val (.long adj), .second, .val (.long ya), .second, .val (.long dz), .second, .val (.int md), .val (.int mm), .unset, .unset] [(.int mm)])
      refine own_st (fun t_ k_ => XS.iconst X2.here hx rfl (hb hby d8_174) k_) ?_
      show own_Go p e below _ T2 (mkF m 175 #[.val (.long d), .second, .val (.long z2), .second, .val (.long adj), .second, .val (.long ya), .second, .val (.long dz), .second, .val (.int md), .val (.int mm), .unset, .unset] [(.int (3 : Int32)), (.int mm)])
      refine own_st (fun t_ k_ => XS.iadd X2.here hx rfl (hb hby d8_175) rfl k_) ?_
      show own_Go p e below _ T2 (mkF m 176 #[.val (.long d), .second, .val (.long z2), .second, .val (.long adj), .second, .val (.long ya), .second, .val (.long dz), .second, .val (.int md), .val (.int mm), .unset, .unset] [(.int (mm + (3 : Int32)))])
      have d_m0 : (mm + (3 : Int32)).toInt = mm.toInt + 3 := own_m0 mm bmm_
      generalize h_m0 : (mm + (3 : Int32)) = m0 at d_m0 ⊢
      show own_Go p e below _ T2 (mkF m 176 #[.val (.long d), .second, .val (.long z2), .second, .val (.long adj), .second, .val (.long ya), .second, .val (.long dz), .second, .val (.int md), .val (.int mm), .unset, .unset] [(.int m0)])
      refine own_st (fun t_ k_ => XS.istore X2.here hx rfl (hb hby d8_176) rfl (l' := #[.val (.long d), .second, .val (.long z2), .second, .val (.long adj), .second, .val (.long ya), .second, .val (.long dz), .second, .val (.int md), .val (.int mm), .val (.int m0), .unset]) rfl k_) ?_
      show own_Go p e below _ T2 (mkF m 178 #[.val (.long d), .second, .val (.long z2), .second, .val (.long adj), .second, .val (.long ya), .second, .val (.long dz), .second, .val (.int md), .val (.int mm), .val (.int m0), .unset] [])
      refine own_st (fun t_ k_ => XS.iload X2.here hx rfl (hb hby d8_178) rfl k_) ?_
      show own_Go p e below _ T2 (mkF m 180 #[.val (.long d), .second, .val (.long z2), .second, .val (.long adj), .second, .val (.long ya), .second, .val (.long dz), .second, .val (.int md), .val (.int mm), .val (.int m0), .unset] [(.int m0)])
      refine own_st (fun t_ k_ => XS.bipush X2.here hx rfl (hb hby d8_180) k_) ?_
      show own_Go p e below _ T2 (mkF m 182 #[.val (.long d), .second, .val (.long z2), .second, .val (.long adj), .second, .val (.long ya), .second, .val (.long dz), .second, .val (.int md), .val (.int mm), .val (.int m0), .unset] [(.int (12 : Int32)), (.int m0)])
      refine own_join (α := Int32) (F := fun mo => (mo.toInt = mm.toInt + 3 ∧ mm.toInt + 3 ≤ 12) ∨ (mo.toInt = mm.toInt - 9 ∧ 12 < mm.toInt + 3)) (T' := T2) (g' := fun mo => (mkF m 188 #[.val (.long d), .second, .val (.long z2), .second, .val (.long adj), .second, .val (.long ya), .second, .val (.long dz), .second, .val (.int md), .val (.int mm), .val (.int mo), .unset] [])) (fun mo h_mo => ?_) (fun J_mo => ?_)
      · show own_Go p e below _ T2 (mkF m 188 #[.val (.long d), .second, .val (.long z2), .second, .val (.long adj), .second, .val (.long ya), .second, .val (.long dz), .second, .val (.int md), .val (.int mm), .val (.int mo), .unset] [])
        refine own_st (fun t_ k_ => XS.iload X2.here hx rfl (hb hby d8_188) rfl k_) ?_
        show own_Go p e below _ T2 (mkF m 190 #[.val (.long d), .second, .val (.long z2), .second, .val (.long adj), .second, .val (.long ya), .second, .val (.long dz), .second, .val (.int md), .val (.int mm), .val (.int mo), .unset] [(.int md)])
        refine own_st (fun t_ k_ => XS.iload X2.here hx rfl (hb hby d8_190) rfl k_) ?_
        show own_Go p e below _ T2 (mkF m 192 #[.val (.long d), .second, .val (.long z2), .second, .val (.long adj), .second, .val (.long ya), .second, .val (.long dz), .second, .val (.int md), .val (.int mm), .val (.int mo), .unset] [(.int mm), (.int md)])
        refine own_st (fun t_ k_ => XS.sipush X2.here hx rfl (hb hby d8_192) k_) ?_
        show own_Go p e below _ T2 (mkF m 195 #[.val (.long d), .second, .val (.long z2), .second, .val (.long adj), .second, .val (.long ya), .second, .val (.long dz), .second, .val (.int md), .val (.int mm), .val (.int mo), .unset] [(.int (306 : Int32)), (.int mm), (.int md)])
        refine own_st (fun t_ k_ => XS.imul X2.here hx rfl (hb hby d8_195) rfl k_) ?_
        show own_Go p e below _ T2 (mkF m 196 #[.val (.long d), .second, .val (.long z2), .second, .val (.long adj), .second, .val (.long ya), .second, .val (.long dz), .second, .val (.int md), .val (.int mm), .val (.int mo), .unset] [(.int (mm * (306 : Int32))), (.int md)])
        refine own_st (fun t_ k_ => XS.iconst X2.here hx rfl (hb hby d8_196) k_) ?_
        show own_Go p e below _ T2 (mkF m 197 #[.val (.long d), .second, .val (.long z2), .second, .val (.long adj), .second, .val (.long ya), .second, .val (.long dz), .second, .val (.int md), .val (.int mm), .val (.int mo), .unset] [(.int (5 : Int32)), (.int (mm * (306 : Int32))), (.int md)])
        refine own_st (fun t_ k_ => XS.iadd X2.here hx rfl (hb hby d8_197) rfl k_) ?_
        show own_Go p e below _ T2 (mkF m 198 #[.val (.long d), .second, .val (.long z2), .second, .val (.long adj), .second, .val (.long ya), .second, .val (.long dz), .second, .val (.int md), .val (.int mm), .val (.int mo), .unset] [(.int ((mm * (306 : Int32)) + (5 : Int32))), (.int md)])
        refine own_st (fun t_ k_ => XS.bipush X2.here hx rfl (hb hby d8_198) k_) ?_
        show own_Go p e below _ T2 (mkF m 200 #[.val (.long d), .second, .val (.long z2), .second, .val (.long adj), .second, .val (.long ya), .second, .val (.long dz), .second, .val (.int md), .val (.int mm), .val (.int mo), .unset] [(.int (10 : Int32)), (.int ((mm * (306 : Int32)) + (5 : Int32))), (.int md)])
        refine own_st (fun t_ k_ => XS.idiv X2.here hx rfl (hb hby d8_200) rfl (by decide) k_) ?_
        show own_Go p e below _ T2 (mkF m 201 #[.val (.long d), .second, .val (.long z2), .second, .val (.long adj), .second, .val (.long ya), .second, .val (.long dz), .second, .val (.int md), .val (.int mm), .val (.int mo), .unset] [(.int (((mm * (306 : Int32)) + (5 : Int32)) / (10 : Int32))), (.int md)])
        refine own_st (fun t_ k_ => XS.isub X2.here hx rfl (hb hby d8_201) rfl k_) ?_
        show own_Go p e below _ T2 (mkF m 202 #[.val (.long d), .second, .val (.long z2), .second, .val (.long adj), .second, .val (.long ya), .second, .val (.long dz), .second, .val (.int md), .val (.int mm), .val (.int mo), .unset] [(.int (md - (((mm * (306 : Int32)) + (5 : Int32)) / (10 : Int32))))])
        refine own_st (fun t_ k_ => XS.iconst X2.here hx rfl (hb hby d8_202) k_) ?_
        show own_Go p e below _ T2 (mkF m 203 #[.val (.long d), .second, .val (.long z2), .second, .val (.long adj), .second, .val (.long ya), .second, .val (.long dz), .second, .val (.int md), .val (.int mm), .val (.int mo), .unset] [(.int (1 : Int32)), (.int (md - (((mm * (306 : Int32)) + (5 : Int32)) / (10 : Int32))))])
        refine own_st (fun t_ k_ => XS.iadd X2.here hx rfl (hb hby d8_203) rfl k_) ?_
        show own_Go p e below _ T2 (mkF m 204 #[.val (.long d), .second, .val (.long z2), .second, .val (.long adj), .second, .val (.long ya), .second, .val (.long dz), .second, .val (.int md), .val (.int mm), .val (.int mo), .unset] [(.int ((md - (((mm * (306 : Int32)) + (5 : Int32)) / (10 : Int32))) + (1 : Int32)))])
        have d_dm : ((md - (((mm * (306 : Int32)) + (5 : Int32)) / (10 : Int32))) + (1 : Int32)).toInt = md.toInt - (306 * mm.toInt + 5) / 10 + 1 := own_dm md mm bm_ bmm_
        generalize h_dm : ((md - (((mm * (306 : Int32)) + (5 : Int32)) / (10 : Int32))) + (1 : Int32)) = dm at d_dm ⊢
        show own_Go p e below _ T2 (mkF m 204 #[.val (.long d), .second, .val (.long z2), .second, .val (.long adj), .second, .val (.long ya), .second, .val (.long dz), .second, .val (.int md), .val (.int mm), .val (.int mo), .unset] [(.int dm)])
        refine own_st (fun t_ k_ => XS.istore X2.here hx rfl (hb hby d8_204) rfl (l' := #[.val (.long d), .second, .val (.long z2), .second, .val (.long adj), .second, .val (.long ya), .second, .val (.long dz), .second, .val (.int md), .val (.int mm), .val (.int mo), .val (.int dm)]) rfl k_) ?_
        show own_Go p e below _ T2 (mkF m 206 #[.val (.long d), .second, .val (.long z2), .second, .val (.long adj), .second, .val (.long ya), .second, .val (.long dz), .second, .val (.int md), .val (.int mm), .val (.int mo), .val (.int dm)] [])
        refine own_st (fun t_ k_ => XS.iload X2.here hx rfl (hb hby d8_206) rfl k_) ?_
        show own_Go p e below _ T2 (mkF m 208 #[.val (.long d), .second, .val (.long z2), .second, .val (.long adj), .second, .val (.long ya), .second, .val (.long dz), .second, .val (.int md), .val (.int mm), .val (.int mo), .val (.int dm)] [(.int md)])
        refine own_st (fun t_ k_ => XS.sipush X2.here hx rfl (hb hby d8_208) k_) ?_
        show own_Go p e below _ T2 (mkF m 211 #[.val (.long d), .second, .val (.long z2), .second, .val (.long adj), .second, .val (.long ya), .second, .val (.long dz), .second, .val (.int md), .val (.int mm), .val (.int mo), .val (.int dm)] [(.int (306 : Int32)), (.int md)])
        refine own_join (α := Int64) (F := fun yb => (md.toInt < 306 ∧ yb.toInt = ya.toInt) ∨ (306 ≤ md.toInt ∧ yb.toInt = ya.toInt + 1)) (T' := T2) (g' := fun yb => (mkF m 220 #[.val (.long d), .second, .val (.long z2), .second, .val (.long adj), .second, .val (.long yb), .second, .val (.long dz), .second, .val (.int md), .val (.int mm), .val (.int mo), .val (.int dm)] [])) (fun yb h_yb => ?_) (fun J_yb => ?_)
        · show own_Go p e below _ T2 (mkF m 220 #[.val (.long d), .second, .val (.long z2), .second, .val (.long adj), .second, .val (.long yb), .second, .val (.long dz), .second, .val (.int md), .val (.int mm), .val (.int mo), .val (.int dm)] [])
          obtain ⟨T4, h4, X4, e4, E4, A4, D4, cel4, st4⟩ := newO X2 hx hZ hown (hw _ (List.mem_of_getElem? (i := 53) rfl)) (hw _ (List.mem_of_getElem? (i := 54) rfl)) (hw _ (List.mem_of_getElem? (i := 4) rfl)) hh2 (g := (mkF m 220 #[.val (.long d), .second, .val (.long z2), .second, .val (.long adj), .second, .val (.long yb), .second, .val (.long dz), .second, .val (.int md), .val (.int mm), .val (.int mo), .val (.int dm)] [])) rfl (hb hby d8_220) (by decide) (by decide)
          obtain ⟨nb4, g4⟩ : ∃ z, z = h0.size := ⟨_, rfl⟩
          rw [← g4] at A4 D4 cel4 st4
          refine own_st st4 ?_
          have g_nb4 : n0 ≤ nb4 := Nat.le_trans (Nat.le_trans Z0 (Keep.refl h0 []).1) (Nat.le_of_eq g4.symm)
          have K4 : Keep h0 h4 [] := (Keep.refl h0 []).ext E4
          have sz_nb4 : h0.size ≤ nb4 := Nat.le_trans (Keep.refl h0 []).1 (Nat.le_of_eq g4.symm)
          have F4_year : Fld Z h4 nb4 "java/time/LocalDate" "year" "I" (.int (0 : Int32)) := D4 (Or.inr (hw _ (List.mem_of_getElem? (i := 63) rfl))) (ty := .int) (by decide)
          have F4_month : Fld Z h4 nb4 "java/time/LocalDate" "month" "S" (.int (0 : Int32)) := D4 (Or.inr (hw _ (List.mem_of_getElem? (i := 65) rfl))) (ty := .short) (by decide)
          have F4_day : Fld Z h4 nb4 "java/time/LocalDate" "day" "S" (.int (0 : Int32)) := D4 (Or.inr (hw _ (List.mem_of_getElem? (i := 67) rfl))) (ty := .short) (by decide)
          show own_Go p e below _ T4 (mkF m 223 #[.val (.long d), .second, .val (.long z2), .second, .val (.long adj), .second, .val (.long yb), .second, .val (.long dz), .second, .val (.int md), .val (.int mm), .val (.int mo), .val (.int dm)] [(.ref nb4)])
          refine own_st (fun t_ k_ => XS.dup X4.here hx rfl (hb hby d8_223) rfl rfl k_) ?_
          show own_Go p e below _ T4 (mkF m 224 #[.val (.long d), .second, .val (.long z2), .second, .val (.long adj), .second, .val (.long yb), .second, .val (.long dz), .second, .val (.int md), .val (.int mm), .val (.int mo), .val (.int dm)] [(.ref nb4), (.ref nb4)])
          refine own_st (fun t_ k_ => XS.lload X4.here hx rfl (hb hby d8_224) rfl k_) ?_
          show own_Go p e below _ T4 (mkF m 226 #[.val (.long d), .second, .val (.long z2), .second, .val (.long adj), .second, .val (.long yb), .second, .val (.long dz), .second, .val (.int md), .val (.int mm), .val (.int mo), .val (.int dm)] [(.long yb), (.ref nb4), (.ref nb4)])
          refine own_st (fun t_ k_ => XS.l2i X4.here hx rfl (hb hby d8_226) rfl k_) ?_
          show own_Go p e below _ T4 (mkF m 227 #[.val (.long d), .second, .val (.long z2), .second, .val (.long adj), .second, .val (.long yb), .second, .val (.long dz), .second, .val (.int md), .val (.int mm), .val (.int mo), .val (.int dm)] [(.int (yb.toInt32)), (.ref nb4), (.ref nb4)])
          have d_yi : (yb.toInt32).toInt = yb.toInt := own_l2i yb (own_ybb d_ya ⟨hk5, hk6⟩ ⟨g1_, g2_⟩ h_yb)
          generalize h_yi : (yb.toInt32) = yi at d_yi ⊢
          show own_Go p e below _ T4 (mkF m 227 #[.val (.long d), .second, .val (.long z2), .second, .val (.long adj), .second, .val (.long yb), .second, .val (.long dz), .second, .val (.int md), .val (.int mm), .val (.int mo), .val (.int dm)] [(.int yi), (.ref nb4), (.ref nb4)])
          have hD : own_D d.toInt yi.toInt mo.toInt dm.toInt := by rw [d_yi]; exact own_cal d.toInt kk z2.toInt ex_.toInt dz.toInt ya.toInt yb.toInt md.toInt mm.toInt mo.toInt dm.toInt hk2 ⟨hk5, hk6⟩ ⟨g1_, g2_⟩ g3_ ⟨g4_, g5_⟩ d_ya d_md d_mm h_mo d_dm h_yb
          refine own_st (fun t_ k_ => XS.iload X4.here hx rfl (hb hby d8_227) rfl k_) ?_
          show own_Go p e below _ T4 (mkF m 229 #[.val (.long d), .second, .val (.long z2), .second, .val (.long adj), .second, .val (.long yb), .second, .val (.long dz), .second, .val (.int md), .val (.int mm), .val (.int mo), .val (.int dm)] [(.int mo), (.int yi), (.ref nb4), (.ref nb4)])
          refine own_st (fun t_ k_ => XS.iload X4.here hx rfl (hb hby d8_229) rfl k_) ?_
          show own_Go p e below _ T4 (mkF m 231 #[.val (.long d), .second, .val (.long z2), .second, .val (.long adj), .second, .val (.long yb), .second, .val (.long dz), .second, .val (.int md), .val (.int mm), .val (.int mo), .val (.int dm)] [(.int dm), (.int mo), (.int yi), (.ref nb4), (.ref nb4)])
          refine own_callN X4 hx (y := (⟨"java/time/LocalDate", "<init>", "(III)V"⟩ : MethodName)) rfl hown (mvT hZ (hw _ (List.mem_of_getElem? (i := 55) rfl))) (mvT hZ (hw _ (List.mem_of_getElem? (i := 56) rfl))) (mvT hZ (hw _ (List.mem_of_getElem? (i := 58) rfl))) (by decide) (backOf (W := 1) (rmLI l Z a0 hw [] nb4 yi mo dm h4 n0 (Nat.le_trans Z0 K4.1) g_nb4 A4 F4_year F4_month F4_day (own_dm16 hD) (own_dk16 hD)) hZ (hw _ (List.mem_of_getElem? (i := 58) rfl)) (hw _ (List.mem_of_getElem? (i := 4) rfl)) (by decide) (by decide)) (a := nb4) (g := (mkF m 231 #[.val (.long d), .second, .val (.long z2), .second, .val (.long adj), .second, .val (.long yb), .second, .val (.long dz), .second, .val (.int md), .val (.int mm), .val (.int mo), .val (.int dm)] [(.int dm), (.int mo), (.int yi), (.ref nb4), (.ref nb4)])) rfl (by rw [hml]; rfl) (argsL := [(.int yi), (.int mo), (.int dm)]) (rest := [(.ref nb4)]) (lenOf pd_5 rfl) rfl (by show 2 * 0 + _ ≤ _; exact Nat.le_of_eq rfl) (hb hby d8_231) rfl e4 (by decide) (by decide) ?_
          rintro v5 T5 L5 X5 ⟨rfl, Nq5, Kq5, Eq5, Fy5, Fm5, Fd5⟩
          have N5 := Fr.app N2 Nq5
          have K5 : Keep h0 T5.heap [] := K4.trans Kq5 (allS (Or.inr sz_nb4) all0)
          show own_Go p e below _ T5 (mkF m 234 #[.val (.long d), .second, .val (.long z2), .second, .val (.long adj), .second, .val (.long yb), .second, .val (.long dz), .second, .val (.int md), .val (.int mm), .val (.int mo), .val (.int dm)] [(.ref nb4)])
          refine own_retA X5 hx hlk Bd.returns rfl rfl (hb hby d8_234) ?_ (by decide) (by decide)
          show QLD Z d h0 n0 _ T5.heap _
          exact ⟨nb4, yi, mo, dm, rfl, N5, K5, sz_nb4, g_nb4, Eq5, Fy5, Fm5, Fd5, hD⟩
        · show own_Go p e below _ T2 (mkF m 211 #[.val (.long d), .second, .val (.long z2), .second, .val (.long adj), .second, .val (.long ya), .second, .val (.long dz), .second, .val (.int md), .val (.int mm), .val (.int mo), .val (.int dm)] [(.int (306 : Int32)), (.int md)])
          by_cases h3_ : md < (306 : Int32)
          · refine own_st (fun t_ k_ => XS.icmpYes X2.here hx rfl (pc0 := 211) (pc' := 220) rfl (hb hby d8_211) rfl (tlt h3_).1 (by decide) (by decide) k_) ?_
            show own_Go p e below _ T2 (mkF m 220 #[.val (.long d), .second, .val (.long z2), .second, .val (.long adj), .second, .val (.long ya), .second, .val (.long dz), .second, .val (.int md), .val (.int mm), .val (.int mo), .val (.int dm)] [])
            exact J_yb ya (Or.inl ⟨own_lt306 h3_, rfl⟩)
          · refine own_st (fun t_ k_ => XS.icmpNo X2.here hx rfl (hb hby d8_211) rfl (flt h3_).1 k_) ?_
            show own_Go p e below _ T2 (mkF m 214 #[.val (.long d), .second, .val (.long z2), .second, .val (.long adj), .second, .val (.long ya), .second, .val (.long dz), .second, .val (.int md), .val (.int mm), .val (.int mo), .val (.int dm)] [])
            refine own_st (fun t_ k_ => XS.lload X2.here hx rfl (hb hby d8_214) rfl k_) ?_
            show own_Go p e below _ T2 (mkF m 216 #[.val (.long d), .second, .val (.long z2), .second, .val (.long adj), .second, .val (.long ya), .second, .val (.long dz), .second, .val (.int md), .val (.int mm), .val (.int mo), .val (.int dm)] [(.long ya)])
            refine own_st (fun t_ k_ => XS.lconst X2.here hx rfl (hb hby d8_216) k_) ?_
            show own_Go p e below _ T2 (mkF m 217 #[.val (.long d), .second, .val (.long z2), .second, .val (.long adj), .second, .val (.long ya), .second, .val (.long dz), .second, .val (.int md), .val (.int mm), .val (.int mo), .val (.int dm)] [(.long (1 : Int64)), (.long ya)])
            refine own_st (fun t_ k_ => XS.ladd X2.here hx rfl (hb hby d8_217) rfl k_) ?_
            show own_Go p e below _ T2 (mkF m 218 #[.val (.long d), .second, .val (.long z2), .second, .val (.long adj), .second, .val (.long ya), .second, .val (.long dz), .second, .val (.int md), .val (.int mm), .val (.int mo), .val (.int dm)] [(.long (ya + (1 : Int64)))])
            refine own_st (fun t_ k_ => XS.lstore X2.here hx rfl (hb hby d8_218) rfl (l' := #[.val (.long d), .second, .val (.long z2), .second, .val (.long adj), .second, .val (.long (ya + (1 : Int64))), .second, .val (.long dz), .second, .val (.int md), .val (.int mm), .val (.int mo), .val (.int dm)]) rfl k_) ?_
            show own_Go p e below _ T2 (mkF m 220 #[.val (.long d), .second, .val (.long z2), .second, .val (.long adj), .second, .val (.long (ya + (1 : Int64))), .second, .val (.long dz), .second, .val (.int md), .val (.int mm), .val (.int mo), .val (.int dm)] [])
            exact J_yb (ya + (1 : Int64)) (Or.inr ⟨own_ge306 h3_, own_p1L ya (own_yab d_ya ⟨hk5, hk6⟩ ⟨g1_, g2_⟩)⟩)
      · show own_Go p e below _ T2 (mkF m 182 #[.val (.long d), .second, .val (.long z2), .second, .val (.long adj), .second, .val (.long ya), .second, .val (.long dz), .second, .val (.int md), .val (.int mm), .val (.int m0), .unset] [(.int (12 : Int32)), (.int m0)])
        by_cases hm_ : (12 : Int32) < m0
        · refine own_st (fun t_ k_ => XS.icmpNo X2.here hx rfl (hb hby d8_182) rfl (tlt hm_).2.2.2 k_) ?_
          show own_Go p e below _ T2 (mkF m 185 #[.val (.long d), .second, .val (.long z2), .second, .val (.long adj), .second, .val (.long ya), .second, .val (.long dz), .second, .val (.int md), .val (.int mm), .val (.int m0), .unset] [])
          refine own_st (fun t_ k_ => XS.iinc X2.here hx rfl (hb hby d8_185) rfl (l' := #[.val (.long d), .second, .val (.long z2), .second, .val (.long adj), .second, .val (.long ya), .second, .val (.long dz), .second, .val (.int md), .val (.int mm), .val (.int (m0 + (-12 : Int32))), .unset]) rfl k_) ?_
          show own_Go p e below _ T2 (mkF m 188 #[.val (.long d), .second, .val (.long z2), .second, .val (.long adj), .second, .val (.long ya), .second, .val (.long dz), .second, .val (.int md), .val (.int mm), .val (.int (m0 + (-12 : Int32))), .unset] [])
          exact J_mo (m0 + (-12 : Int32)) (Or.inr (own_mo2 d_m0 bmm_ hm_))
        · refine own_st (fun t_ k_ => XS.icmpYes X2.here hx rfl (pc0 := 182) (pc' := 188) rfl (hb hby d8_182) rfl (flt hm_).2.2.2 (by decide) (by decide) k_) ?_
          show own_Go p e below _ T2 (mkF m 188 #[.val (.long d), .second, .val (.long z2), .second, .val (.long adj), .second, .val (.long ya), .second, .val (.long dz), .second, .val (.int md), .val (.int mm), .val (.int m0), .unset] [])
          exact J_mo m0 (Or.inl (own_mo1 d_m0 hm_))
    · show own_Go p e below _ T2 (mkF m 108 #[.val (.long d), .second, .val (.long z2), .second, .val (.long adj), .second, .val (.long ye), .second, .val (.long dy), .second, .unset, .unset, .unset, .unset] [(.int (lcmpW dy (0 : Int64)))])
      by_cases hy_ : (lcmpW dy (0 : Int64)) < (0 : Int32)
      · refine own_st (fun t_ k_ => XS.ifNo X2.here hx rfl (hb hby d8_108) rfl ((if0 _ _).trans (tlt hy_).2.1) k_) ?_
        show own_Go p e below _ T2 (mkF m 111 #[.val (.long d), .second, .val (.long z2), .second, .val (.long adj), .second, .val (.long ye), .second, .val (.long dy), .second, .unset, .unset, .unset, .unset] [])
        refine own_st (fun t_ k_ => XS.lload X2.here hx rfl (hb hby d8_111) rfl k_) ?_
        show own_Go p e below _ T2 (mkF m 113 #[.val (.long d), .second, .val (.long z2), .second, .val (.long adj), .second, .val (.long ye), .second, .val (.long dy), .second, .unset, .unset, .unset, .unset] [(.long ye)])
        refine own_st (fun t_ k_ => XS.lconst X2.here hx rfl (hb hby d8_113) k_) ?_
        show own_Go p e below _ T2 (mkF m 114 #[.val (.long d), .second, .val (.long z2), .second, .val (.long adj), .second, .val (.long ye), .second, .val (.long dy), .second, .unset, .unset, .unset, .unset] [(.long (1 : Int64)), (.long ye)])
        refine own_st (fun t_ k_ => XS.lsub X2.here hx rfl (hb hby d8_114) rfl k_) ?_
        show own_Go p e below _ T2 (mkF m 115 #[.val (.long d), .second, .val (.long z2), .second, .val (.long adj), .second, .val (.long ye), .second, .val (.long dy), .second, .unset, .unset, .unset, .unset] [(.long (ye - (1 : Int64)))])
        generalize h_yf : (ye - (1 : Int64)) = yf
        show own_Go p e below _ T2 (mkF m 115 #[.val (.long d), .second, .val (.long z2), .second, .val (.long adj), .second, .val (.long ye), .second, .val (.long dy), .second, .unset, .unset, .unset, .unset] [(.long yf)])
        refine own_st (fun t_ k_ => XS.lstore X2.here hx rfl (hb hby d8_115) rfl (l' := #[.val (.long d), .second, .val (.long z2), .second, .val (.long adj), .second, .val (.long yf), .second, .val (.long dy), .second, .unset, .unset, .unset, .unset]) rfl k_) ?_
        show own_Go p e below _ T2 (mkF m 117 #[.val (.long d), .second, .val (.long z2), .second, .val (.long adj), .second, .val (.long yf), .second, .val (.long dy), .second, .unset, .unset, .unset, .unset] [])
        refine own_st (fun t_ k_ => XS.lloadN X2.here hx rfl (hb hby d8_117) rfl k_) ?_
        show own_Go p e below _ T2 (mkF m 118 #[.val (.long d), .second, .val (.long z2), .second, .val (.long adj), .second, .val (.long yf), .second, .val (.long dy), .second, .unset, .unset, .unset, .unset] [(.long z2)])
        refine own_st (fun t_ k_ => X2.ldc2J hx hown (mvT hZ (hw _ (List.mem_of_getElem? (i := 50) rfl))) rfl (hb hby d8_118) k_) ?_
        show own_Go p e below _ T2 (mkF m 121 #[.val (.long d), .second, .val (.long z2), .second, .val (.long adj), .second, .val (.long yf), .second, .val (.long dy), .second, .unset, .unset, .unset, .unset] [(.long (365 : Int64)), (.long z2)])
        refine own_st (fun t_ k_ => XS.lload X2.here hx rfl (hb hby d8_121) rfl k_) ?_
        show own_Go p e below _ T2 (mkF m 123 #[.val (.long d), .second, .val (.long z2), .second, .val (.long adj), .second, .val (.long yf), .second, .val (.long dy), .second, .unset, .unset, .unset, .unset] [(.long yf), (.long (365 : Int64)), (.long z2)])
        refine own_st (fun t_ k_ => XS.lmul X2.here hx rfl (hb hby d8_123) rfl k_) ?_
        show own_Go p e below _ T2 (mkF m 124 #[.val (.long d), .second, .val (.long z2), .second, .val (.long adj), .second, .val (.long yf), .second, .val (.long dy), .second, .unset, .unset, .unset, .unset] [(.long ((365 : Int64) * yf)), (.long z2)])
        refine own_st (fun t_ k_ => XS.lload X2.here hx rfl (hb hby d8_124) rfl k_) ?_
        show own_Go p e below _ T2 (mkF m 126 #[.val (.long d), .second, .val (.long z2), .second, .val (.long adj), .second, .val (.long yf), .second, .val (.long dy), .second, .unset, .unset, .unset, .unset] [(.long yf), (.long ((365 : Int64) * yf)), (.long z2)])
        refine own_st (fun t_ k_ => X2.ldc2J hx hown (mvT hZ (hw _ (List.mem_of_getElem? (i := 51) rfl))) rfl (hb hby d8_126) k_) ?_
        show own_Go p e below _ T2 (mkF m 129 #[.val (.long d), .second, .val (.long z2), .second, .val (.long adj), .second, .val (.long yf), .second, .val (.long dy), .second, .unset, .unset, .unset, .unset] [(.long (4 : Int64)), (.long yf), (.long ((365 : Int64) * yf)), (.long z2)])
        refine own_st (fun t_ k_ => XS.ldiv X2.here hx rfl (hb hby d8_129) rfl (by decide) k_) ?_
        show own_Go p e below _ T2 (mkF m 130 #[.val (.long d), .second, .val (.long z2), .second, .val (.long adj), .second, .val (.long yf), .second, .val (.long dy), .second, .unset, .unset, .unset, .unset] [(.long (yf / (4 : Int64))), (.long ((365 : Int64) * yf)), (.long z2)])
        refine own_st (fun t_ k_ => XS.ladd X2.here hx rfl (hb hby d8_130) rfl k_) ?_
        show own_Go p e below _ T2 (mkF m 131 #[.val (.long d), .second, .val (.long z2), .second, .val (.long adj), .second, .val (.long yf), .second, .val (.long dy), .second, .unset, .unset, .unset, .unset] [(.long (((365 : Int64) * yf) + (yf / (4 : Int64)))), (.long z2)])
        refine own_st (fun t_ k_ => XS.lload X2.here hx rfl (hb hby d8_131) rfl k_) ?_
        show own_Go p e below _ T2 (mkF m 133 #[.val (.long d), .second, .val (.long z2), .second, .val (.long adj), .second, .val (.long yf), .second, .val (.long dy), .second, .unset, .unset, .unset, .unset] [(.long yf), (.long (((365 : Int64) * yf) + (yf / (4 : Int64)))), (.long z2)])
        refine own_st (fun t_ k_ => X2.ldc2J hx hown (mvT hZ (hw _ (List.mem_of_getElem? (i := 52) rfl))) rfl (hb hby d8_133) k_) ?_
        show own_Go p e below _ T2 (mkF m 136 #[.val (.long d), .second, .val (.long z2), .second, .val (.long adj), .second, .val (.long yf), .second, .val (.long dy), .second, .unset, .unset, .unset, .unset] [(.long (100 : Int64)), (.long yf), (.long (((365 : Int64) * yf) + (yf / (4 : Int64)))), (.long z2)])
        refine own_st (fun t_ k_ => XS.ldiv X2.here hx rfl (hb hby d8_136) rfl (by decide) k_) ?_
        show own_Go p e below _ T2 (mkF m 137 #[.val (.long d), .second, .val (.long z2), .second, .val (.long adj), .second, .val (.long yf), .second, .val (.long dy), .second, .unset, .unset, .unset, .unset] [(.long (yf / (100 : Int64))), (.long (((365 : Int64) * yf) + (yf / (4 : Int64)))), (.long z2)])
        refine own_st (fun t_ k_ => XS.lsub X2.here hx rfl (hb hby d8_137) rfl k_) ?_
        show own_Go p e below _ T2 (mkF m 138 #[.val (.long d), .second, .val (.long z2), .second, .val (.long adj), .second, .val (.long yf), .second, .val (.long dy), .second, .unset, .unset, .unset, .unset] [(.long ((((365 : Int64) * yf) + (yf / (4 : Int64))) - (yf / (100 : Int64)))), (.long z2)])
        refine own_st (fun t_ k_ => XS.lload X2.here hx rfl (hb hby d8_138) rfl k_) ?_
        show own_Go p e below _ T2 (mkF m 140 #[.val (.long d), .second, .val (.long z2), .second, .val (.long adj), .second, .val (.long yf), .second, .val (.long dy), .second, .unset, .unset, .unset, .unset] [(.long yf), (.long ((((365 : Int64) * yf) + (yf / (4 : Int64))) - (yf / (100 : Int64)))), (.long z2)])
        refine own_st (fun t_ k_ => X2.ldc2J hx hown (mvT hZ (hw _ (List.mem_of_getElem? (i := 47) rfl))) rfl (hb hby d8_140) k_) ?_
        show own_Go p e below _ T2 (mkF m 143 #[.val (.long d), .second, .val (.long z2), .second, .val (.long adj), .second, .val (.long yf), .second, .val (.long dy), .second, .unset, .unset, .unset, .unset] [(.long (400 : Int64)), (.long yf), (.long ((((365 : Int64) * yf) + (yf / (4 : Int64))) - (yf / (100 : Int64)))), (.long z2)])
        refine own_st (fun t_ k_ => XS.ldiv X2.here hx rfl (hb hby d8_143) rfl (by decide) k_) ?_
        show own_Go p e below _ T2 (mkF m 144 #[.val (.long d), .second, .val (.long z2), .second, .val (.long adj), .second, .val (.long yf), .second, .val (.long dy), .second, .unset, .unset, .unset, .unset] [(.long (yf / (400 : Int64))), (.long ((((365 : Int64) * yf) + (yf / (4 : Int64))) - (yf / (100 : Int64)))), (.long z2)])
        refine own_st (fun t_ k_ => XS.ladd X2.here hx rfl (hb hby d8_144) rfl k_) ?_
        show own_Go p e below _ T2 (mkF m 145 #[.val (.long d), .second, .val (.long z2), .second, .val (.long adj), .second, .val (.long yf), .second, .val (.long dy), .second, .unset, .unset, .unset, .unset] [(.long (((((365 : Int64) * yf) + (yf / (4 : Int64))) - (yf / (100 : Int64))) + (yf / (400 : Int64)))), (.long z2)])
        refine own_st (fun t_ k_ => XS.lsub X2.here hx rfl (hb hby d8_145) rfl k_) ?_
        show own_Go p e below _ T2 (mkF m 146 #[.val (.long d), .second, .val (.long z2), .second, .val (.long adj), .second, .val (.long yf), .second, .val (.long dy), .second, .unset, .unset, .unset, .unset] [(.long (z2 - (((((365 : Int64) * yf) + (yf / (4 : Int64))) - (yf / (100 : Int64))) + (yf / (400 : Int64)))))])
        refine own_st (fun t_ k_ => XS.lstore X2.here hx rfl (hb hby d8_146) rfl (l' := #[.val (.long d), .second, .val (.long z2), .second, .val (.long adj), .second, .val (.long yf), .second, .val (.long (z2 - (((((365 : Int64) * yf) + (yf / (4 : Int64))) - (yf / (100 : Int64))) + (yf / (400 : Int64))))), .second, .unset, .unset, .unset, .unset]) rfl k_) ?_
        show own_Go p e below _ T2 (mkF m 148 #[.val (.long d), .second, .val (.long z2), .second, .val (.long adj), .second, .val (.long yf), .second, .val (.long (z2 - (((((365 : Int64) * yf) + (yf / (4 : Int64))) - (yf / (100 : Int64))) + (yf / (400 : Int64))))), .second, .unset, .unset, .unset, .unset] [])
        exact J_oq (yf, (z2 - (((((365 : Int64) * yf) + (yf / (4 : Int64))) - (yf / (100 : Int64))) + (yf / (400 : Int64))))) (own_g2 z2 ye dy ⟨hk3, hk4⟩ hk7 d_dy (own_lcl0.mp hy_) yf h_yf.symm)
      · refine own_st (fun t_ k_ => XS.ifYes X2.here hx rfl (pc0 := 108) (pc' := 148) rfl (hb hby d8_108) rfl ((if0 _ _).trans (flt hy_).2.1) (by decide) (by decide) k_) ?_
        show own_Go p e below _ T2 (mkF m 148 #[.val (.long d), .second, .val (.long z2), .second, .val (.long adj), .second, .val (.long ye), .second, .val (.long dy), .second, .unset, .unset, .unset, .unset] [])
        exact J_oq (ye, dy) (own_g1 z2 ye dy ⟨hk3, hk4⟩ hk7 d_dy (fun q => hy_ (own_lcl0.mpr q)))
  · show own_Go p e below _ T2 (mkF m 26 #[.val (.long d), .second, .val (.long zz), .second, .val (.long (0 : Int64)), .second, .unset, .unset, .unset, .unset, .unset, .unset, .unset, .unset] [(.int (lcmpW zz (0 : Int64)))])
    by_cases hz : (lcmpW zz (0 : Int64)) < (0 : Int32)
    · refine own_st (fun t_ k_ => XS.ifNo X2.here hx rfl (hb hby d8_26) rfl ((if0 _ _).trans (tlt hz).2.1) k_) ?_
      show own_Go p e below _ T2 (mkF m 29 #[.val (.long d), .second, .val (.long zz), .second, .val (.long (0 : Int64)), .second, .unset, .unset, .unset, .unset, .unset, .unset, .unset, .unset] [])
      refine own_st (fun t_ k_ => XS.lloadN X2.here hx rfl (hb hby d8_29) rfl k_) ?_
      show own_Go p e below _ T2 (mkF m 30 #[.val (.long d), .second, .val (.long zz), .second, .val (.long (0 : Int64)), .second, .unset, .unset, .unset, .unset, .unset, .unset, .unset, .unset] [(.long zz)])
      refine own_st (fun t_ k_ => XS.lconst X2.here hx rfl (hb hby d8_30) k_) ?_
      show own_Go p e below _ T2 (mkF m 31 #[.val (.long d), .second, .val (.long zz), .second, .val (.long (0 : Int64)), .second, .unset, .unset, .unset, .unset, .unset, .unset, .unset, .unset] [(.long (1 : Int64)), (.long zz)])
      refine own_st (fun t_ k_ => XS.ladd X2.here hx rfl (hb hby d8_31) rfl k_) ?_
      show own_Go p e below _ T2 (mkF m 32 #[.val (.long d), .second, .val (.long zz), .second, .val (.long (0 : Int64)), .second, .unset, .unset, .unset, .unset, .unset, .unset, .unset, .unset] [(.long (zz + (1 : Int64)))])
      refine own_st (fun t_ k_ => X2.ldc2J hx hown (mvT hZ (hw _ (List.mem_of_getElem? (i := 49) rfl))) rfl (hb hby d8_32) k_) ?_
      show own_Go p e below _ T2 (mkF m 35 #[.val (.long d), .second, .val (.long zz), .second, .val (.long (0 : Int64)), .second, .unset, .unset, .unset, .unset, .unset, .unset, .unset, .unset] [(.long (146097 : Int64)), (.long (zz + (1 : Int64)))])
      refine own_st (fun t_ k_ => XS.ldiv X2.here hx rfl (hb hby d8_35) rfl (by decide) k_) ?_
      show own_Go p e below _ T2 (mkF m 36 #[.val (.long d), .second, .val (.long zz), .second, .val (.long (0 : Int64)), .second, .unset, .unset, .unset, .unset, .unset, .unset, .unset, .unset] [(.long ((zz + (1 : Int64)) / (146097 : Int64)))])
      refine own_st (fun t_ k_ => XS.lconst X2.here hx rfl (hb hby d8_36) k_) ?_
      show own_Go p e below _ T2 (mkF m 37 #[.val (.long d), .second, .val (.long zz), .second, .val (.long (0 : Int64)), .second, .unset, .unset, .unset, .unset, .unset, .unset, .unset, .unset] [(.long (1 : Int64)), (.long ((zz + (1 : Int64)) / (146097 : Int64)))])
      refine own_st (fun t_ k_ => XS.lsub X2.here hx rfl (hb hby d8_37) rfl k_) ?_
      show own_Go p e below _ T2 (mkF m 38 #[.val (.long d), .second, .val (.long zz), .second, .val (.long (0 : Int64)), .second, .unset, .unset, .unset, .unset, .unset, .unset, .unset, .unset] [(.long (((zz + (1 : Int64)) / (146097 : Int64)) - (1 : Int64)))])
      generalize h_ac : (((zz + (1 : Int64)) / (146097 : Int64)) - (1 : Int64)) = ac
      show own_Go p e below _ T2 (mkF m 38 #[.val (.long d), .second, .val (.long zz), .second, .val (.long (0 : Int64)), .second, .unset, .unset, .unset, .unset, .unset, .unset, .unset, .unset] [(.long ac)])
      refine own_st (fun t_ k_ => XS.lstore X2.here hx rfl (hb hby d8_38) rfl (l' := #[.val (.long d), .second, .val (.long zz), .second, .val (.long (0 : Int64)), .second, .val (.long ac), .second, .unset, .unset, .unset, .unset, .unset, .unset]) rfl k_) ?_
      show own_Go p e below _ T2 (mkF m 40 #[.val (.long d), .second, .val (.long zz), .second, .val (.long (0 : Int64)), .second, .val (.long ac), .second, .unset, .unset, .unset, .unset, .unset, .unset] [])
      refine own_st (fun t_ k_ => XS.lload X2.here hx rfl (hb hby d8_40) rfl k_) ?_
      show own_Go p e below _ T2 (mkF m 42 #[.val (.long d), .second, .val (.long zz), .second, .val (.long (0 : Int64)), .second, .val (.long ac), .second, .unset, .unset, .unset, .unset, .unset, .unset] [(.long ac)])
      refine own_st (fun t_ k_ => X2.ldc2J hx hown (mvT hZ (hw _ (List.mem_of_getElem? (i := 47) rfl))) rfl (hb hby d8_42) k_) ?_
      show own_Go p e below _ T2 (mkF m 45 #[.val (.long d), .second, .val (.long zz), .second, .val (.long (0 : Int64)), .second, .val (.long ac), .second, .unset, .unset, .unset, .unset, .unset, .unset] [(.long (400 : Int64)), (.long ac)])
      refine own_st (fun t_ k_ => XS.lmul X2.here hx rfl (hb hby d8_45) rfl k_) ?_
      show own_Go p e below _ T2 (mkF m 46 #[.val (.long d), .second, .val (.long zz), .second, .val (.long (0 : Int64)), .second, .val (.long ac), .second, .unset, .unset, .unset, .unset, .unset, .unset] [(.long (ac * (400 : Int64)))])
      refine own_st (fun t_ k_ => XS.lstore X2.here hx rfl (hb hby d8_46) rfl (l' := #[.val (.long d), .second, .val (.long zz), .second, .val (.long (ac * (400 : Int64))), .second, .val (.long ac), .second, .unset, .unset, .unset, .unset, .unset, .unset]) rfl k_) ?_
      show own_Go p e below _ T2 (mkF m 48 #[.val (.long d), .second, .val (.long zz), .second, .val (.long (ac * (400 : Int64))), .second, .val (.long ac), .second, .unset, .unset, .unset, .unset, .unset, .unset] [])
      refine own_st (fun t_ k_ => XS.lloadN X2.here hx rfl (hb hby d8_48) rfl k_) ?_
      show own_Go p e below _ T2 (mkF m 49 #[.val (.long d), .second, .val (.long zz), .second, .val (.long (ac * (400 : Int64))), .second, .val (.long ac), .second, .unset, .unset, .unset, .unset, .unset, .unset] [(.long zz)])
      refine own_st (fun t_ k_ => XS.lload X2.here hx rfl (hb hby d8_49) rfl k_) ?_
      show own_Go p e below _ T2 (mkF m 51 #[.val (.long d), .second, .val (.long zz), .second, .val (.long (ac * (400 : Int64))), .second, .val (.long ac), .second, .unset, .unset, .unset, .unset, .unset, .unset] [(.long ac), (.long zz)])
      refine own_st (fun t_ k_ => XS.lneg X2.here hx rfl (hb hby d8_51) rfl k_) ?_
      show own_Go p e below _ T2 (mkF m 52 #[.val (.long d), .second, .val (.long zz), .second, .val (.long (ac * (400 : Int64))), .second, .val (.long ac), .second, .unset, .unset, .unset, .unset, .unset, .unset] [(.long (-ac)), (.long zz)])
      refine own_st (fun t_ k_ => X2.ldc2J hx hown (mvT hZ (hw _ (List.mem_of_getElem? (i := 49) rfl))) rfl (hb hby d8_52) k_) ?_
      show own_Go p e below _ T2 (mkF m 55 #[.val (.long d), .second, .val (.long zz), .second, .val (.long (ac * (400 : Int64))), .second, .val (.long ac), .second, .unset, .unset, .unset, .unset, .unset, .unset] [(.long (146097 : Int64)), (.long (-ac)), (.long zz)])
      refine own_st (fun t_ k_ => XS.lmul X2.here hx rfl (hb hby d8_55) rfl k_) ?_
      show own_Go p e below _ T2 (mkF m 56 #[.val (.long d), .second, .val (.long zz), .second, .val (.long (ac * (400 : Int64))), .second, .val (.long ac), .second, .unset, .unset, .unset, .unset, .unset, .unset] [(.long ((-ac) * (146097 : Int64))), (.long zz)])
      refine own_st (fun t_ k_ => XS.ladd X2.here hx rfl (hb hby d8_56) rfl k_) ?_
      show own_Go p e below _ T2 (mkF m 57 #[.val (.long d), .second, .val (.long zz), .second, .val (.long (ac * (400 : Int64))), .second, .val (.long ac), .second, .unset, .unset, .unset, .unset, .unset, .unset] [(.long (zz + ((-ac) * (146097 : Int64))))])
      generalize h_z2 : (zz + ((-ac) * (146097 : Int64))) = z2
      show own_Go p e below _ T2 (mkF m 57 #[.val (.long d), .second, .val (.long zz), .second, .val (.long (ac * (400 : Int64))), .second, .val (.long ac), .second, .unset, .unset, .unset, .unset, .unset, .unset] [(.long z2)])
      refine own_st (fun t_ k_ => XS.lstoreN X2.here hx rfl (hb hby d8_57) rfl (l' := #[.val (.long d), .second, .val (.long z2), .second, .val (.long (ac * (400 : Int64))), .second, .val (.long ac), .second, .unset, .unset, .unset, .unset, .unset, .unset]) rfl k_) ?_
      show own_Go p e below _ T2 (mkF m 58 #[.val (.long d), .second, .val (.long z2), .second, .val (.long (ac * (400 : Int64))), .second, .val (.long ac), .second, .unset, .unset, .unset, .unset, .unset, .unset] [])
      refine own_st (fun t_ k_ => X2.ldc2J hx hown (mvT hZ (hw _ (List.mem_of_getElem? (i := 47) rfl))) rfl (hb hby d8_58) k_) ?_
      show own_Go p e below _ T2 (mkF m 61 #[.val (.long d), .second, .val (.long z2), .second, .val (.long (ac * (400 : Int64))), .second, .val (.long ac), .second, .unset, .unset, .unset, .unset, .unset, .unset] [(.long (400 : Int64))])
      refine own_st (fun t_ k_ => XS.lloadN X2.here hx rfl (hb hby d8_61) rfl k_) ?_
      show own_Go p e below _ T2 (mkF m 62 #[.val (.long d), .second, .val (.long z2), .second, .val (.long (ac * (400 : Int64))), .second, .val (.long ac), .second, .unset, .unset, .unset, .unset, .unset, .unset] [(.long z2), (.long (400 : Int64))])
      refine own_st (fun t_ k_ => XS.lmul X2.here hx rfl (hb hby d8_62) rfl k_) ?_
      show own_Go p e below _ T2 (mkF m 63 #[.val (.long d), .second, .val (.long z2), .second, .val (.long (ac * (400 : Int64))), .second, .val (.long ac), .second, .unset, .unset, .unset, .unset, .unset, .unset] [(.long ((400 : Int64) * z2))])
      refine own_st (fun t_ k_ => X2.ldc2J hx hown (mvT hZ (hw _ (List.mem_of_getElem? (i := 48) rfl))) rfl (hb hby d8_63) k_) ?_
      show own_Go p e below _ T2 (mkF m 66 #[.val (.long d), .second, .val (.long z2), .second, .val (.long (ac * (400 : Int64))), .second, .val (.long ac), .second, .unset, .unset, .unset, .unset, .unset, .unset] [(.long (591 : Int64)), (.long ((400 : Int64) * z2))])
      refine own_st (fun t_ k_ => XS.ladd X2.here hx rfl (hb hby d8_66) rfl k_) ?_
      show own_Go p e below _ T2 (mkF m 67 #[.val (.long d), .second, .val (.long z2), .second, .val (.long (ac * (400 : Int64))), .second, .val (.long ac), .second, .unset, .unset, .unset, .unset, .unset, .unset] [(.long (((400 : Int64) * z2) + (591 : Int64)))])
      refine own_st (fun t_ k_ => X2.ldc2J hx hown (mvT hZ (hw _ (List.mem_of_getElem? (i := 49) rfl))) rfl (hb hby d8_67) k_) ?_
      show own_Go p e below _ T2 (mkF m 70 #[.val (.long d), .second, .val (.long z2), .second, .val (.long (ac * (400 : Int64))), .second, .val (.long ac), .second, .unset, .unset, .unset, .unset, .unset, .unset] [(.long (146097 : Int64)), (.long (((400 : Int64) * z2) + (591 : Int64)))])
      refine own_st (fun t_ k_ => XS.ldiv X2.here hx rfl (hb hby d8_70) rfl (by decide) k_) ?_
      show own_Go p e below _ T2 (mkF m 71 #[.val (.long d), .second, .val (.long z2), .second, .val (.long (ac * (400 : Int64))), .second, .val (.long ac), .second, .unset, .unset, .unset, .unset, .unset, .unset] [(.long ((((400 : Int64) * z2) + (591 : Int64)) / (146097 : Int64)))])
      refine own_st (fun t_ k_ => XS.lstore X2.here hx rfl (hb hby d8_71) rfl (l' := #[.val (.long d), .second, .val (.long z2), .second, .val (.long (ac * (400 : Int64))), .second, .val (.long ((((400 : Int64) * z2) + (591 : Int64)) / (146097 : Int64))), .second, .unset, .unset, .unset, .unset, .unset, .unset]) rfl k_) ?_
      show own_Go p e below _ T2 (mkF m 73 #[.val (.long d), .second, .val (.long z2), .second, .val (.long (ac * (400 : Int64))), .second, .val (.long ((((400 : Int64) * z2) + (591 : Int64)) / (146097 : Int64))), .second, .unset, .unset, .unset, .unset, .unset, .unset] [])
      exact J_oo (z2, (ac * (400 : Int64)), ((((400 : Int64) * z2) + (591 : Int64)) / (146097 : Int64))) (own_c3 d zz hd d_zz (own_lcl0.mp hz) ac z2 h_ac.symm h_z2.symm)
    · refine own_st (fun t_ k_ => XS.ifYes X2.here hx rfl (pc0 := 26) (pc' := 58) rfl (hb hby d8_26) rfl ((if0 _ _).trans (flt hz).2.1) (by decide) (by decide) k_) ?_
      show own_Go p e below _ T2 (mkF m 58 #[.val (.long d), .second, .val (.long zz), .second, .val (.long (0 : Int64)), .second, .unset, .unset, .unset, .unset, .unset, .unset, .unset, .unset] [])
      refine own_st (fun t_ k_ => X2.ldc2J hx hown (mvT hZ (hw _ (List.mem_of_getElem? (i := 47) rfl))) rfl (hb hby d8_58) k_) ?_
      show own_Go p e below _ T2 (mkF m 61 #[.val (.long d), .second, .val (.long zz), .second, .val (.long (0 : Int64)), .second, .unset, .unset, .unset, .unset, .unset, .unset, .unset, .unset] [(.long (400 : Int64))])
      refine own_st (fun t_ k_ => XS.lloadN X2.here hx rfl (hb hby d8_61) rfl k_) ?_
      show own_Go p e below _ T2 (mkF m 62 #[.val (.long d), .second, .val (.long zz), .second, .val (.long (0 : Int64)), .second, .unset, .unset, .unset, .unset, .unset, .unset, .unset, .unset] [(.long zz), (.long (400 : Int64))])
      refine own_st (fun t_ k_ => XS.lmul X2.here hx rfl (hb hby d8_62) rfl k_) ?_
      show own_Go p e below _ T2 (mkF m 63 #[.val (.long d), .second, .val (.long zz), .second, .val (.long (0 : Int64)), .second, .unset, .unset, .unset, .unset, .unset, .unset, .unset, .unset] [(.long ((400 : Int64) * zz))])
      refine own_st (fun t_ k_ => X2.ldc2J hx hown (mvT hZ (hw _ (List.mem_of_getElem? (i := 48) rfl))) rfl (hb hby d8_63) k_) ?_
      show own_Go p e below _ T2 (mkF m 66 #[.val (.long d), .second, .val (.long zz), .second, .val (.long (0 : Int64)), .second, .unset, .unset, .unset, .unset, .unset, .unset, .unset, .unset] [(.long (591 : Int64)), (.long ((400 : Int64) * zz))])
      refine own_st (fun t_ k_ => XS.ladd X2.here hx rfl (hb hby d8_66) rfl k_) ?_
      show own_Go p e below _ T2 (mkF m 67 #[.val (.long d), .second, .val (.long zz), .second, .val (.long (0 : Int64)), .second, .unset, .unset, .unset, .unset, .unset, .unset, .unset, .unset] [(.long (((400 : Int64) * zz) + (591 : Int64)))])
      refine own_st (fun t_ k_ => X2.ldc2J hx hown (mvT hZ (hw _ (List.mem_of_getElem? (i := 49) rfl))) rfl (hb hby d8_67) k_) ?_
      show own_Go p e below _ T2 (mkF m 70 #[.val (.long d), .second, .val (.long zz), .second, .val (.long (0 : Int64)), .second, .unset, .unset, .unset, .unset, .unset, .unset, .unset, .unset] [(.long (146097 : Int64)), (.long (((400 : Int64) * zz) + (591 : Int64)))])
      refine own_st (fun t_ k_ => XS.ldiv X2.here hx rfl (hb hby d8_70) rfl (by decide) k_) ?_
      show own_Go p e below _ T2 (mkF m 71 #[.val (.long d), .second, .val (.long zz), .second, .val (.long (0 : Int64)), .second, .unset, .unset, .unset, .unset, .unset, .unset, .unset, .unset] [(.long ((((400 : Int64) * zz) + (591 : Int64)) / (146097 : Int64)))])
      refine own_st (fun t_ k_ => XS.lstore X2.here hx rfl (hb hby d8_71) rfl (l' := #[.val (.long d), .second, .val (.long zz), .second, .val (.long (0 : Int64)), .second, .val (.long ((((400 : Int64) * zz) + (591 : Int64)) / (146097 : Int64))), .second, .unset, .unset, .unset, .unset, .unset, .unset]) rfl k_) ?_
      show own_Go p e below _ T2 (mkF m 73 #[.val (.long d), .second, .val (.long zz), .second, .val (.long (0 : Int64)), .second, .val (.long ((((400 : Int64) * zz) + (591 : Int64)) / (146097 : Int64))), .second, .unset, .unset, .unset, .unset, .unset, .unset] [])
      exact J_oo (zz, (0 : Int64), ((((400 : Int64) * zz) + (591 : Int64)) / (146097 : Int64))) (own_c2 d zz hd d_zz (fun q => hz (own_lcl0.mpr q)))
def QLP (y : Int) (h0 : Heap) (n0 : Nat) (v : Option Value) (h : Heap) (L : List Loc) : Prop := ∃ r : Int32, v = some (.int r) ∧ Fr n0 L ∧ h = h0 ∧ ((r = (1 : Int32) ∧ own_lp y) ∨ (r = (0 : Int32) ∧ ¬ own_lp y))
theorem d9_0 : decode jdk_2369_method_18_code 0 = .ok (.lload_n 1, 1) := by decide +kernel
theorem d9_1 : decode jdk_2369_method_18_code 1 = .ok (.ldc2_w 117, 3) := by decide +kernel
theorem d9_4 : decode jdk_2369_method_18_code 4 = .ok (.land, 1) := by decide +kernel
theorem d9_5 : decode jdk_2369_method_18_code 5 = .ok (.lconst 0, 1) := by decide +kernel
theorem d9_6 : decode jdk_2369_method_18_code 6 = .ok (.lcmp, 1) := by decide +kernel
theorem d9_7 : decode jdk_2369_method_18_code 7 = .ok (.ifCond .ne 27, 3) := by decide +kernel
theorem d9_34 : decode jdk_2369_method_18_code 34 = .ok (.iconst 0, 1) := by decide +kernel
theorem d9_35 : decode jdk_2369_method_18_code 35 = .ok (.ireturn, 1) := by decide +kernel
theorem d9_10 : decode jdk_2369_method_18_code 10 = .ok (.lload_n 1, 1) := by decide +kernel
theorem d9_11 : decode jdk_2369_method_18_code 11 = .ok (.ldc2_w 123, 3) := by decide +kernel
theorem d9_14 : decode jdk_2369_method_18_code 14 = .ok (.lrem, 1) := by decide +kernel
theorem d9_15 : decode jdk_2369_method_18_code 15 = .ok (.lconst 0, 1) := by decide +kernel
theorem d9_16 : decode jdk_2369_method_18_code 16 = .ok (.lcmp, 1) := by decide +kernel
theorem d9_17 : decode jdk_2369_method_18_code 17 = .ok (.ifCond .ne 13, 3) := by decide +kernel
theorem d9_30 : decode jdk_2369_method_18_code 30 = .ok (.iconst 1, 1) := by decide +kernel
theorem d9_31 : decode jdk_2369_method_18_code 31 = .ok (.goto 4, 3) := by decide +kernel
theorem d9_20 : decode jdk_2369_method_18_code 20 = .ok (.lload_n 1, 1) := by decide +kernel
theorem d9_21 : decode jdk_2369_method_18_code 21 = .ok (.ldc2_w 127, 3) := by decide +kernel
theorem d9_24 : decode jdk_2369_method_18_code 24 = .ok (.lrem, 1) := by decide +kernel
theorem d9_25 : decode jdk_2369_method_18_code 25 = .ok (.lconst 0, 1) := by decide +kernel
theorem d9_26 : decode jdk_2369_method_18_code 26 = .ok (.lcmp, 1) := by decide +kernel
theorem d9_27 : decode jdk_2369_method_18_code 27 = .ok (.ifCond .ne 7, 3) := by decide +kernel
theorem pn_3 : plainName "java/time/chrono/IsoChronology" = true := by first | (simp [plainName, overriddenIn]; done) | decide +kernel
theorem ef_rmIL (m : MethodId) (x0 : Addr) (x1 : Int64) : entryFrame m #[(.ref x0), (.long x1)] 3 = mkF m 0 #[.val (.ref x0), .val (.long x1), .second] [] := by first | (simp [entryFrame, mkF, argsToLocals, Value.category]; done) | rfl
set_option maxRecDepth 65536 in
set_option maxHeartbeats 40000000 in
theorem rmIL (l : Launch) (Z : State) (a0 : Array Value) (hw : ∀ d ∈ tables_1, d.before a0 Z = true) (ws : List Jvm.Cond) (a : Addr) (y : Int64) (h0 : Heap) (n0 : Nat) (Z0 : n0 ≤ h0.size) :
    MetFree l (⟨"java/time/chrono/IsoChronology", "isLeapYear", "(J)Z"⟩ : MethodName) (head1 (Jvm.Cond.code (⟨"java/time/chrono/IsoChronology", "isLeapYear", "(J)Z"⟩ : MethodName) jdk_2369_method_18_code 3 (some .boolean) :: ws) ({ frames := 0, cells := 0, slots := 0, locals := 0 } : Room)) (fun a_ U_ => a_ = #[(.ref a), (.long y)] ∧ Z.Warmed39 U_.vm ∧ U_.heap = h0) (fun _ _ _ _ _ => True) (fun _ U_ o_ U'_ => ∃ v_ L_, o_ = .returned v_ ∧ QLP y.toInt h0 n0 v_ U'_.heap L_ ∧ FrameEnd U_ o_ U'_ L_ ({ frames := 0, cells := 0, slots := 0, locals := 0 } : Room).cells ({ frames := 0, cells := 0, slots := 0, locals := 0 } : Room).slots) := by
  refine MetFree.of_bodySF (plainFor_of_name pn_3) hisR ?_
  intro p e s m args below meth c s₁ Bd hml0 hP hK
  obtain ⟨rfl, hZ, hh⟩ := hP
  have hx := Bd.exec
  have hby := Bd.bytes
  have hml : c.maxLocals = 3 := hml0
  have hown : s.vm.findClass "java/time/chrono/IsoChronology" = some m.cls := findClass_of_methodNamed Bd.named
  have hnm := (name_of_methodNamed Bd.named Bd.method).1
  have hlk := BodyLoose.notSynchronized Bd
  have X0 : Stand p l e ({ frames := 0, cells := 0, slots := 0, locals := 0 } : Room) s m #[(.ref a), (.long y)] below meth c s₁ [] 0 0 := Stand.of_body Bd
  have e0 : s₁.heap = h0 := by rw [← hh, Bd.state]; rfl
  have N0 := Fr.nil n0
  refine own_entry (P := own_End s (QLP y.toInt h0 n0) ({ frames := 0, cells := 0, slots := 0, locals := 0 } : Room).cells ({ frames := 0, cells := 0, slots := 0, locals := 0 } : Room).slots) (ef_rmIL m a y) ?_
  show own_Go p e below _ s₁ (mkF m 0 #[.val (.ref a), .val (.long y), .second] [])
  refine own_st (fun t_ k_ => XS.lloadN X0.here hx rfl (hb hby d9_0) rfl k_) ?_
  show own_Go p e below _ s₁ (mkF m 1 #[.val (.ref a), .val (.long y), .second] [(.long y)])
  refine own_st (fun t_ k_ => X0.ldc2J hx hown (mvT hZ (hw _ (List.mem_of_getElem? (i := 176) rfl))) rfl (hb hby d9_1) k_) ?_
  show own_Go p e below _ s₁ (mkF m 4 #[.val (.ref a), .val (.long y), .second] [(.long (3 : Int64)), (.long y)])
  refine own_st (fun t_ k_ => XS.land X0.here hx rfl (hb hby d9_4) rfl k_) ?_
  show own_Go p e below _ s₁ (mkF m 5 #[.val (.ref a), .val (.long y), .second] [(.long (y &&& (3 : Int64)))])
  refine own_st (fun t_ k_ => XS.lconst X0.here hx rfl (hb hby d9_5) k_) ?_
  show own_Go p e below _ s₁ (mkF m 6 #[.val (.ref a), .val (.long y), .second] [(.long (0 : Int64)), (.long (y &&& (3 : Int64)))])
  refine own_st (fun t_ k_ => XS.lcmp X0.here hx rfl (hb hby d9_6) rfl k_) ?_
  show own_Go p e below _ s₁ (mkF m 7 #[.val (.ref a), .val (.long y), .second] [(.int (lcmpW (y &&& (3 : Int64)) (0 : Int64)))])
  by_cases h4_ : (lcmpW (y &&& (3 : Int64)) (0 : Int64)) = (0 : Int32)
  · refine own_st (fun t_ k_ => XS.ifNo X0.here hx rfl (hb hby d9_7) rfl ((if0 _ _).trans (teq h4_).2) k_) ?_
    show own_Go p e below _ s₁ (mkF m 10 #[.val (.ref a), .val (.long y), .second] [])
    refine own_st (fun t_ k_ => XS.lloadN X0.here hx rfl (hb hby d9_10) rfl k_) ?_
    show own_Go p e below _ s₁ (mkF m 11 #[.val (.ref a), .val (.long y), .second] [(.long y)])
    refine own_st (fun t_ k_ => X0.ldc2J hx hown (mvT hZ (hw _ (List.mem_of_getElem? (i := 177) rfl))) rfl (hb hby d9_11) k_) ?_
    show own_Go p e below _ s₁ (mkF m 14 #[.val (.ref a), .val (.long y), .second] [(.long (100 : Int64)), (.long y)])
    refine own_st (fun t_ k_ => XS.lrem X0.here hx rfl (hb hby d9_14) rfl (by decide) k_) ?_
    show own_Go p e below _ s₁ (mkF m 15 #[.val (.ref a), .val (.long y), .second] [(.long (y - (y / (100 : Int64)) * (100 : Int64)))])
    refine own_st (fun t_ k_ => XS.lconst X0.here hx rfl (hb hby d9_15) k_) ?_
    show own_Go p e below _ s₁ (mkF m 16 #[.val (.ref a), .val (.long y), .second] [(.long (0 : Int64)), (.long (y - (y / (100 : Int64)) * (100 : Int64)))])
    refine own_st (fun t_ k_ => XS.lcmp X0.here hx rfl (hb hby d9_16) rfl k_) ?_
    show own_Go p e below _ s₁ (mkF m 17 #[.val (.ref a), .val (.long y), .second] [(.int (lcmpW (y - (y / (100 : Int64)) * (100 : Int64)) (0 : Int64)))])
    by_cases h1_ : (lcmpW (y - (y / (100 : Int64)) * (100 : Int64)) (0 : Int64)) = (0 : Int32)
    · refine own_st (fun t_ k_ => XS.ifNo X0.here hx rfl (hb hby d9_17) rfl ((if0 _ _).trans (teq h1_).2) k_) ?_
      show own_Go p e below _ s₁ (mkF m 20 #[.val (.ref a), .val (.long y), .second] [])
      refine own_st (fun t_ k_ => XS.lloadN X0.here hx rfl (hb hby d9_20) rfl k_) ?_
      show own_Go p e below _ s₁ (mkF m 21 #[.val (.ref a), .val (.long y), .second] [(.long y)])
      refine own_st (fun t_ k_ => X0.ldc2J hx hown (mvT hZ (hw _ (List.mem_of_getElem? (i := 178) rfl))) rfl (hb hby d9_21) k_) ?_
      show own_Go p e below _ s₁ (mkF m 24 #[.val (.ref a), .val (.long y), .second] [(.long (400 : Int64)), (.long y)])
      refine own_st (fun t_ k_ => XS.lrem X0.here hx rfl (hb hby d9_24) rfl (by decide) k_) ?_
      show own_Go p e below _ s₁ (mkF m 25 #[.val (.ref a), .val (.long y), .second] [(.long (y - (y / (400 : Int64)) * (400 : Int64)))])
      refine own_st (fun t_ k_ => XS.lconst X0.here hx rfl (hb hby d9_25) k_) ?_
      show own_Go p e below _ s₁ (mkF m 26 #[.val (.ref a), .val (.long y), .second] [(.long (0 : Int64)), (.long (y - (y / (400 : Int64)) * (400 : Int64)))])
      refine own_st (fun t_ k_ => XS.lcmp X0.here hx rfl (hb hby d9_26) rfl k_) ?_
      show own_Go p e below _ s₁ (mkF m 27 #[.val (.ref a), .val (.long y), .second] [(.int (lcmpW (y - (y / (400 : Int64)) * (400 : Int64)) (0 : Int64)))])
      by_cases h2_ : (lcmpW (y - (y / (400 : Int64)) * (400 : Int64)) (0 : Int64)) = (0 : Int32)
      · refine own_st (fun t_ k_ => XS.ifNo X0.here hx rfl (hb hby d9_27) rfl ((if0 _ _).trans (teq h2_).2) k_) ?_
        show own_Go p e below _ s₁ (mkF m 30 #[.val (.ref a), .val (.long y), .second] [])
        refine own_st (fun t_ k_ => XS.iconst X0.here hx rfl (hb hby d9_30) k_) ?_
        show own_Go p e below _ s₁ (mkF m 31 #[.val (.ref a), .val (.long y), .second] [(.int (1 : Int32))])
        refine own_st (fun t_ k_ => XS.goto X0.here hx rfl (pc0 := 31) (pc' := 35) rfl (hb hby d9_31) (by decide) (by decide) k_) ?_
        show own_Go p e below _ s₁ (mkF m 35 #[.val (.ref a), .val (.long y), .second] [(.int (1 : Int32))])
        refine own_retN X0 hx hlk (t := .boolean) Bd.returns (by simp) (hb hby d9_35) ?_ (by decide) (by decide)
        show QLP y.toInt h0 n0 _ s₁.heap _
        rw [e0]
        exact ⟨_, rfl, N0, rfl, Or.inl ⟨rfl, own_lp2 h4_ h2_⟩⟩
      · refine own_st (fun t_ k_ => XS.ifYes X0.here hx rfl (pc0 := 27) (pc' := 34) rfl (hb hby d9_27) rfl ((if0 _ _).trans (feq h2_).2) (by decide) (by decide) k_) ?_
        show own_Go p e below _ s₁ (mkF m 34 #[.val (.ref a), .val (.long y), .second] [])
        refine own_st (fun t_ k_ => XS.iconst X0.here hx rfl (hb hby d9_34) k_) ?_
        show own_Go p e below _ s₁ (mkF m 35 #[.val (.ref a), .val (.long y), .second] [(.int (0 : Int32))])
        refine own_retN X0 hx hlk (t := .boolean) Bd.returns (by simp) (hb hby d9_35) ?_ (by decide) (by decide)
        show QLP y.toInt h0 n0 _ s₁.heap _
        rw [e0]
        exact ⟨_, rfl, N0, rfl, Or.inr ⟨rfl, own_lp4 h1_ h2_⟩⟩
    · refine own_st (fun t_ k_ => XS.ifYes X0.here hx rfl (pc0 := 17) (pc' := 30) rfl (hb hby d9_17) rfl ((if0 _ _).trans (feq h1_).2) (by decide) (by decide) k_) ?_
      show own_Go p e below _ s₁ (mkF m 30 #[.val (.ref a), .val (.long y), .second] [])
      refine own_st (fun t_ k_ => XS.iconst X0.here hx rfl (hb hby d9_30) k_) ?_
      show own_Go p e below _ s₁ (mkF m 31 #[.val (.ref a), .val (.long y), .second] [(.int (1 : Int32))])
      refine own_st (fun t_ k_ => XS.goto X0.here hx rfl (pc0 := 31) (pc' := 35) rfl (hb hby d9_31) (by decide) (by decide) k_) ?_
      show own_Go p e below _ s₁ (mkF m 35 #[.val (.ref a), .val (.long y), .second] [(.int (1 : Int32))])
      refine own_retN X0 hx hlk (t := .boolean) Bd.returns (by simp) (hb hby d9_35) ?_ (by decide) (by decide)
      show QLP y.toInt h0 n0 _ s₁.heap _
      rw [e0]
      exact ⟨_, rfl, N0, rfl, Or.inl ⟨rfl, own_lp1 h4_ h1_⟩⟩
  · refine own_st (fun t_ k_ => XS.ifYes X0.here hx rfl (pc0 := 7) (pc' := 34) rfl (hb hby d9_7) rfl ((if0 _ _).trans (feq h4_).2) (by decide) (by decide) k_) ?_
    show own_Go p e below _ s₁ (mkF m 34 #[.val (.ref a), .val (.long y), .second] [])
    refine own_st (fun t_ k_ => XS.iconst X0.here hx rfl (hb hby d9_34) k_) ?_
    show own_Go p e below _ s₁ (mkF m 35 #[.val (.ref a), .val (.long y), .second] [(.int (0 : Int32))])
    refine own_retN X0 hx hlk (t := .boolean) Bd.returns (by simp) (hb hby d9_35) ?_ (by decide) (by decide)
    show QLP y.toInt h0 n0 _ s₁.heap _
    rw [e0]
    exact ⟨_, rfl, N0, rfl, Or.inr ⟨rfl, own_lp3 h4_⟩⟩
theorem d10_0 : decode jdk_2323_method_30_code 0 = .ok (.getstatic 70, 3) := by decide +kernel
theorem d10_3 : decode jdk_2323_method_30_code 3 = .ok (.aload_n 0, 1) := by decide +kernel
theorem d10_4 : decode jdk_2323_method_30_code 4 = .ok (.getfield 246, 3) := by decide +kernel
theorem d10_7 : decode jdk_2323_method_30_code 7 = .ok (.i2l, 1) := by decide +kernel
theorem d10_8 : decode jdk_2323_method_30_code 8 = .ok (.invokevirtual 76, 3) := by decide +kernel
theorem d10_11 : decode jdk_2323_method_30_code 11 = .ok (.ireturn, 1) := by decide +kernel
theorem ef_rmJL (m : MethodId) (x0 : Addr) : entryFrame m #[(.ref x0)] 1 = mkF m 0 #[.val (.ref x0)] [] := by first | (simp [entryFrame, mkF, argsToLocals, Value.category]; done) | rfl
theorem own_nlp {r : Int32} {y : Int} (h : (r = (1 : Int32) ∧ own_lp y) ∨ (r = (0 : Int32) ∧ ¬ own_lp y)) : (nar .boolean r = (1 : Int32) ∧ own_lp y) ∨ (nar .boolean r = (0 : Int32) ∧ ¬ own_lp y) := by
  rcases h with ⟨rfl, h⟩ | ⟨rfl, h⟩
  · exact Or.inl ⟨rfl, h⟩
  · exact Or.inr ⟨rfl, h⟩
set_option maxRecDepth 65536 in
set_option maxHeartbeats 40000000 in
theorem rmJL (l : Launch) (Z : State) (a0 : Array Value) (hw : ∀ d ∈ tables_1, d.before a0 Z = true) (ws : List Jvm.Cond) (a : Addr) (y : Int32) (cf rg iso : Addr) (h0 : Heap) (n0 : Nat) (Z0 : n0 ≤ h0.size) (O0 : Old Z n0 h0) (SEp : Sta Z Z.heap "java/time/temporal/ChronoField" "EPOCH_DAY" "Ljava/time/temporal/ChronoField;" (.ref cf)) (Ecf : Exa Z Z.heap cf "java/time/temporal/ChronoField") (Frg : Fld Z Z.heap cf "java/time/temporal/ChronoField" "range" "Ljava/time/temporal/ValueRange;" (.ref rg)) (Erg : Exa Z Z.heap rg "java/time/temporal/ValueRange") (Fmn : Fld Z Z.heap rg "java/time/temporal/ValueRange" "minSmallest" "J" (.long (-365243219162 : Int64))) (Fmx : Fld Z Z.heap rg "java/time/temporal/ValueRange" "maxLargest" "J" (.long (365241780471 : Int64))) (SIn : Sta Z Z.heap "java/time/chrono/IsoChronology" "INSTANCE" "Ljava/time/chrono/IsoChronology;" (.ref iso)) (Eis : Exa Z Z.heap iso "java/time/chrono/IsoChronology") (F1 : Fld Z h0 a "java/time/LocalDate" "year" "I" (.int y)) :
    MetFree l (⟨"java/time/LocalDate", "isLeapYear", "()Z"⟩ : MethodName) (head1 (Jvm.Cond.code (⟨"java/time/LocalDate", "isLeapYear", "()Z"⟩ : MethodName) jdk_2323_method_30_code 1 (some .boolean) :: ws) ({ frames := 1, cells := 0, slots := 0, locals := 14 } : Room)) (fun a_ U_ => a_ = #[(.ref a)] ∧ Z.Warmed39 U_.vm ∧ U_.heap = h0) (fun _ _ _ _ _ => True) (fun _ U_ o_ U'_ => ∃ v_ L_, o_ = .returned v_ ∧ QLP y.toInt h0 n0 v_ U'_.heap L_ ∧ FrameEnd U_ o_ U'_ L_ ({ frames := 1, cells := 0, slots := 0, locals := 14 } : Room).cells ({ frames := 1, cells := 0, slots := 0, locals := 14 } : Room).slots) := by
  refine MetFree.of_bodySF (plainFor_of_name pn_2) hisR ?_
  intro p e s m args below meth c s₁ Bd hml0 hP hK
  obtain ⟨rfl, hZ, hh⟩ := hP
  have hx := Bd.exec
  have hby := Bd.bytes
  have hml : c.maxLocals = 1 := hml0
  have hown : s.vm.findClass "java/time/LocalDate" = some m.cls := findClass_of_methodNamed Bd.named
  have hnm := (name_of_methodNamed Bd.named Bd.method).1
  have hlk := BodyLoose.notSynchronized Bd
  have X0 : Stand p l e ({ frames := 1, cells := 0, slots := 0, locals := 14 } : Room) s m #[(.ref a)] below meth c s₁ [] 0 0 := Stand.of_body Bd
  have e0 : s₁.heap = h0 := by rw [← hh, Bd.state]; rfl
  have N0 := Fr.nil n0
  refine own_entry (P := own_End s (QLP y.toInt h0 n0) ({ frames := 1, cells := 0, slots := 0, locals := 14 } : Room).cells ({ frames := 1, cells := 0, slots := 0, locals := 14 } : Room).slots) (ef_rmJL m a) ?_
  show own_Go p e below _ s₁ (mkF m 0 #[.val (.ref a)] [])
  have c1_ := Exa.ext O0.2 Ecf
  have c2_ := Fld.ext O0.2 Frg
  have c3_ := Exa.ext O0.2 Erg
  have c4_ := Fld.ext O0.2 Fmn
  have c5_ := Fld.ext O0.2 Fmx
  have c6_ := Exa.ext O0.2 Eis
  obtain ⟨T1, X1, e1, st1⟩ := getS2 X0 hx hZ hown (host := "") (Or.inl (hw _ (List.mem_of_getElem? (i := 169) rfl))) Via.refl e0 (Sta.ext O0.2 SIn) (g := (mkF m 0 #[.val (.ref a)] [])) rfl (hb hby d10_0)
  refine own_st st1 ?_
  show own_Go p e below _ T1 (mkF m 3 #[.val (.ref a)] [(.ref iso)])
  refine own_st (fun t_ k_ => XS.aloadN X1.here hx rfl (hb hby d10_3) rfl rfl k_) ?_
  show own_Go p e below _ T1 (mkF m 4 #[.val (.ref a)] [(.ref a), (.ref iso)])
  obtain ⟨T2, X2, e2, st2⟩ := getF X1 hx hZ hown (host := "") (Or.inl (hw _ (List.mem_of_getElem? (i := 62) rfl))) Via.refl e1 F1 (g := (mkF m 4 #[.val (.ref a)] [(.ref a), (.ref iso)])) rfl rfl (hb hby d10_4)
  refine own_st st2 ?_
  show own_Go p e below _ T2 (mkF m 7 #[.val (.ref a)] [(.int y), (.ref iso)])
  refine own_st (fun t_ k_ => XS.i2l X2.here hx rfl (hb hby d10_7) rfl k_) ?_
  show own_Go p e below _ T2 (mkF m 8 #[.val (.ref a)] [(.long (y.toInt64)), (.ref iso)])
  obtain ⟨cq4, kq4, q4a, q4b, q4c⟩ := isOf hZ e2 c6_
  refine own_callV X2 hx (y := (⟨"java/time/chrono/IsoChronology", "isLeapYear", "(J)Z"⟩ : MethodName)) (z := (⟨"java/time/chrono/IsoChronology", "isLeapYear", "(J)Z"⟩ : MethodName)) hown (mvT hZ (hw _ (List.mem_of_getElem? (i := 171) rfl))) (mvT hZ (hw _ (List.mem_of_getElem? (i := 172) rfl))) (notFace_of_selects (args := #[]) (mvT hZ (hw _ (List.mem_of_getElem? (i := 174) rfl)))) (mvT hZ (hw _ (List.mem_of_getElem? (i := 174) rfl))) (mvT hZ (hw _ (List.mem_of_getElem? (i := 173) rfl))) (by decide) (backOf (W := 0) (rmIL l Z a0 hw [] iso (y.toInt64) h0 n0 (Nat.le_trans Z0 (Keep.refl h0 []).1)) hZ (hw _ (List.mem_of_getElem? (i := 175) rfl)) (hw _ (List.mem_of_getElem? (i := 170) rfl)) (by decide) (by decide)) q4a q4c (g := (mkF m 8 #[.val (.ref a)] [(.long (y.toInt64)), (.ref iso)])) rfl (by rw [hml]; rfl) (argsL := [(.long (y.toInt64))]) (rest := []) (lenOf pd_1 rfl) rfl (by show 2 * 0 + _ ≤ _; exact Nat.le_of_eq rfl) (hb hby d10_8) rfl e2 (by decide) (by decide) ?_
  rintro v3 T3 L3 X3 ⟨r3, rfl, Nq3, hh3, hr3⟩
  have N3 := Fr.app N0 Nq3
  show own_Go p e below _ T3 (mkF m 11 #[.val (.ref a)] [(.int r3)])
  rw [c_i2l] at hr3
  refine own_retN X3 hx hlk (t := .boolean) Bd.returns (by simp) (hb hby d10_11) ?_ (by decide) (by decide)
  show QLP y.toInt h0 n0 _ T3.heap _
  rw [hh3]
  exact ⟨_, rfl, N3, rfl, own_nlp hr3⟩
theorem own_nlp0 : True := trivial
theorem d11_0 : decode jdk_2323_method_67_code 0 = .ok (.aload_n 0, 1) := by decide +kernel
theorem d11_1 : decode jdk_2323_method_67_code 1 = .ok (.getfield 246, 3) := by decide +kernel
theorem d11_4 : decode jdk_2323_method_67_code 4 = .ok (.i2l, 1) := by decide +kernel
theorem d11_5 : decode jdk_2323_method_67_code 5 = .ok (.lstore_n 1, 1) := by decide +kernel
theorem d11_6 : decode jdk_2323_method_67_code 6 = .ok (.aload_n 0, 1) := by decide +kernel
theorem d11_7 : decode jdk_2323_method_67_code 7 = .ok (.getfield 250, 3) := by decide +kernel
theorem d11_10 : decode jdk_2323_method_67_code 10 = .ok (.i2l, 1) := by decide +kernel
theorem d11_11 : decode jdk_2323_method_67_code 11 = .ok (.lstore_n 3, 1) := by decide +kernel
theorem d11_12 : decode jdk_2323_method_67_code 12 = .ok (.lconst 0, 1) := by decide +kernel
theorem d11_13 : decode jdk_2323_method_67_code 13 = .ok (.lstore 5, 2) := by decide +kernel
theorem d11_15 : decode jdk_2323_method_67_code 15 = .ok (.lload 5, 2) := by decide +kernel
theorem d11_17 : decode jdk_2323_method_67_code 17 = .ok (.ldc2_w 174, 3) := by decide +kernel
theorem d11_20 : decode jdk_2323_method_67_code 20 = .ok (.lload_n 1, 1) := by decide +kernel
theorem d11_21 : decode jdk_2323_method_67_code 21 = .ok (.lmul, 1) := by decide +kernel
theorem d11_22 : decode jdk_2323_method_67_code 22 = .ok (.ladd, 1) := by decide +kernel
theorem d11_23 : decode jdk_2323_method_67_code 23 = .ok (.lstore 5, 2) := by decide +kernel
theorem d11_25 : decode jdk_2323_method_67_code 25 = .ok (.lload_n 1, 1) := by decide +kernel
theorem d11_26 : decode jdk_2323_method_67_code 26 = .ok (.lconst 0, 1) := by decide +kernel
theorem d11_27 : decode jdk_2323_method_67_code 27 = .ok (.lcmp, 1) := by decide +kernel
theorem d11_28 : decode jdk_2323_method_67_code 28 = .ok (.ifCond .lt 40, 3) := by decide +kernel
theorem d11_68 : decode jdk_2323_method_67_code 68 = .ok (.lload 5, 2) := by decide +kernel
theorem d11_70 : decode jdk_2323_method_67_code 70 = .ok (.lload_n 1, 1) := by decide +kernel
theorem d11_71 : decode jdk_2323_method_67_code 71 = .ok (.ldc2_w 658, 3) := by decide +kernel
theorem d11_74 : decode jdk_2323_method_67_code 74 = .ok (.ldiv, 1) := by decide +kernel
theorem d11_75 : decode jdk_2323_method_67_code 75 = .ok (.lload_n 1, 1) := by decide +kernel
theorem d11_76 : decode jdk_2323_method_67_code 76 = .ok (.ldc2_w 660, 3) := by decide +kernel
theorem d11_79 : decode jdk_2323_method_67_code 79 = .ok (.ldiv, 1) := by decide +kernel
theorem d11_80 : decode jdk_2323_method_67_code 80 = .ok (.lsub, 1) := by decide +kernel
theorem d11_81 : decode jdk_2323_method_67_code 81 = .ok (.lload_n 1, 1) := by decide +kernel
theorem d11_82 : decode jdk_2323_method_67_code 82 = .ok (.ldc2_w 662, 3) := by decide +kernel
theorem d11_85 : decode jdk_2323_method_67_code 85 = .ok (.ldiv, 1) := by decide +kernel
theorem d11_86 : decode jdk_2323_method_67_code 86 = .ok (.ladd, 1) := by decide +kernel
theorem d11_87 : decode jdk_2323_method_67_code 87 = .ok (.lsub, 1) := by decide +kernel
theorem d11_88 : decode jdk_2323_method_67_code 88 = .ok (.lstore 5, 2) := by decide +kernel
theorem d11_31 : decode jdk_2323_method_67_code 31 = .ok (.lload 5, 2) := by decide +kernel
theorem d11_33 : decode jdk_2323_method_67_code 33 = .ok (.lload_n 1, 1) := by decide +kernel
theorem d11_34 : decode jdk_2323_method_67_code 34 = .ok (.ldc2_w 370, 3) := by decide +kernel
theorem d11_37 : decode jdk_2323_method_67_code 37 = .ok (.ladd, 1) := by decide +kernel
theorem d11_38 : decode jdk_2323_method_67_code 38 = .ok (.ldc2_w 176, 3) := by decide +kernel
theorem d11_41 : decode jdk_2323_method_67_code 41 = .ok (.ldiv, 1) := by decide +kernel
theorem d11_42 : decode jdk_2323_method_67_code 42 = .ok (.lload_n 1, 1) := by decide +kernel
theorem d11_43 : decode jdk_2323_method_67_code 43 = .ok (.ldc2_w 654, 3) := by decide +kernel
theorem d11_46 : decode jdk_2323_method_67_code 46 = .ok (.ladd, 1) := by decide +kernel
theorem d11_47 : decode jdk_2323_method_67_code 47 = .ok (.ldc2_w 178, 3) := by decide +kernel
theorem d11_50 : decode jdk_2323_method_67_code 50 = .ok (.ldiv, 1) := by decide +kernel
theorem d11_51 : decode jdk_2323_method_67_code 51 = .ok (.lsub, 1) := by decide +kernel
theorem d11_52 : decode jdk_2323_method_67_code 52 = .ok (.lload_n 1, 1) := by decide +kernel
theorem d11_53 : decode jdk_2323_method_67_code 53 = .ok (.ldc2_w 656, 3) := by decide +kernel
theorem d11_56 : decode jdk_2323_method_67_code 56 = .ok (.ladd, 1) := by decide +kernel
theorem d11_57 : decode jdk_2323_method_67_code 57 = .ok (.ldc2_w 170, 3) := by decide +kernel
theorem d11_60 : decode jdk_2323_method_67_code 60 = .ok (.ldiv, 1) := by decide +kernel
theorem d11_61 : decode jdk_2323_method_67_code 61 = .ok (.ladd, 1) := by decide +kernel
theorem d11_62 : decode jdk_2323_method_67_code 62 = .ok (.ladd, 1) := by decide +kernel
theorem d11_63 : decode jdk_2323_method_67_code 63 = .ok (.lstore 5, 2) := by decide +kernel
theorem d11_65 : decode jdk_2323_method_67_code 65 = .ok (.goto 25, 3) := by decide +kernel
theorem d11_90 : decode jdk_2323_method_67_code 90 = .ok (.lload 5, 2) := by decide +kernel
theorem d11_92 : decode jdk_2323_method_67_code 92 = .ok (.ldc2_w 664, 3) := by decide +kernel
theorem d11_95 : decode jdk_2323_method_67_code 95 = .ok (.lload_n 3, 1) := by decide +kernel
theorem d11_96 : decode jdk_2323_method_67_code 96 = .ok (.lmul, 1) := by decide +kernel
theorem d11_97 : decode jdk_2323_method_67_code 97 = .ok (.ldc2_w 666, 3) := by decide +kernel
theorem d11_100 : decode jdk_2323_method_67_code 100 = .ok (.lsub, 1) := by decide +kernel
theorem d11_101 : decode jdk_2323_method_67_code 101 = .ok (.ldc2_w 359, 3) := by decide +kernel
theorem d11_104 : decode jdk_2323_method_67_code 104 = .ok (.ldiv, 1) := by decide +kernel
theorem d11_105 : decode jdk_2323_method_67_code 105 = .ok (.ladd, 1) := by decide +kernel
theorem d11_106 : decode jdk_2323_method_67_code 106 = .ok (.lstore 5, 2) := by decide +kernel
theorem d11_108 : decode jdk_2323_method_67_code 108 = .ok (.lload 5, 2) := by decide +kernel
theorem d11_110 : decode jdk_2323_method_67_code 110 = .ok (.aload_n 0, 1) := by decide +kernel
theorem d11_111 : decode jdk_2323_method_67_code 111 = .ok (.getfield 253, 3) := by decide +kernel
theorem d11_114 : decode jdk_2323_method_67_code 114 = .ok (.iconst 1, 1) := by decide +kernel
theorem d11_115 : decode jdk_2323_method_67_code 115 = .ok (.isub, 1) := by decide +kernel
theorem d11_116 : decode jdk_2323_method_67_code 116 = .ok (.i2l, 1) := by decide +kernel
theorem d11_117 : decode jdk_2323_method_67_code 117 = .ok (.ladd, 1) := by decide +kernel
theorem d11_118 : decode jdk_2323_method_67_code 118 = .ok (.lstore 5, 2) := by decide +kernel
theorem d11_120 : decode jdk_2323_method_67_code 120 = .ok (.lload_n 3, 1) := by decide +kernel
theorem d11_121 : decode jdk_2323_method_67_code 121 = .ok (.ldc2_w 668, 3) := by decide +kernel
theorem d11_124 : decode jdk_2323_method_67_code 124 = .ok (.lcmp, 1) := by decide +kernel
theorem d11_125 : decode jdk_2323_method_67_code 125 = .ok (.ifCond .le 22, 3) := by decide +kernel
theorem d11_147 : decode jdk_2323_method_67_code 147 = .ok (.lload 5, 2) := by decide +kernel
theorem d11_149 : decode jdk_2323_method_67_code 149 = .ok (.ldc2_w 164, 3) := by decide +kernel
theorem d11_152 : decode jdk_2323_method_67_code 152 = .ok (.lsub, 1) := by decide +kernel
theorem d11_153 : decode jdk_2323_method_67_code 153 = .ok (.lreturn, 1) := by decide +kernel
theorem d11_128 : decode jdk_2323_method_67_code 128 = .ok (.lload 5, 2) := by decide +kernel
theorem d11_130 : decode jdk_2323_method_67_code 130 = .ok (.lconst 1, 1) := by decide +kernel
theorem d11_131 : decode jdk_2323_method_67_code 131 = .ok (.lsub, 1) := by decide +kernel
theorem d11_132 : decode jdk_2323_method_67_code 132 = .ok (.lstore 5, 2) := by decide +kernel
theorem d11_134 : decode jdk_2323_method_67_code 134 = .ok (.aload_n 0, 1) := by decide +kernel
theorem d11_135 : decode jdk_2323_method_67_code 135 = .ok (.invokevirtual 297, 3) := by decide +kernel
theorem pd_6 : parseMethodDescriptor "()Z" = some ⟨[], some .boolean⟩ := by decide +kernel
theorem d11_138 : decode jdk_2323_method_67_code 138 = .ok (.ifCond .ne 9, 3) := by decide +kernel
theorem d11_141 : decode jdk_2323_method_67_code 141 = .ok (.lload 5, 2) := by decide +kernel
theorem d11_143 : decode jdk_2323_method_67_code 143 = .ok (.lconst 1, 1) := by decide +kernel
theorem d11_144 : decode jdk_2323_method_67_code 144 = .ok (.lsub, 1) := by decide +kernel
theorem d11_145 : decode jdk_2323_method_67_code 145 = .ok (.lstore 5, 2) := by decide +kernel
theorem ef_rmTE (m : MethodId) (x0 : Addr) : entryFrame m #[(.ref x0)] 7 = mkF m 0 #[.val (.ref x0), .unset, .unset, .unset, .unset, .unset, .unset] [] := by first | (simp [entryFrame, mkF, argsToLocals, Value.category]; done) | rfl
theorem own_teb2 {d y m k t u : Int} (D : own_D d y m k) (ht : t = own_Lq y + (367 * m - 362) / 12 + k - 1) (hu : u = t - 1) : -900000000000 ≤ u ∧ u ≤ 900000000000 := by
  have q := own_Lr2 y ⟨D.1, D.2.1⟩
  have r1 := D.2.2.1
  have r2 := D.2.2.2.1
  have r3 := D.2.2.2.2.1
  have r4 := D.2.2.2.2.2.1
  omega
set_option maxRecDepth 65536 in
set_option maxHeartbeats 40000000 in
theorem rmTE (l : Launch) (Z : State) (a0 : Array Value) (hw : ∀ d ∈ tables_1, d.before a0 Z = true) (ws : List Jvm.Cond) (a : Addr) (y m_ k : Int32) (d : Int64) (cf rg iso : Addr) (h0 : Heap) (n0 : Nat) (Z0 : n0 ≤ h0.size) (O0 : Old Z n0 h0) (SEp : Sta Z Z.heap "java/time/temporal/ChronoField" "EPOCH_DAY" "Ljava/time/temporal/ChronoField;" (.ref cf)) (Ecf : Exa Z Z.heap cf "java/time/temporal/ChronoField") (Frg : Fld Z Z.heap cf "java/time/temporal/ChronoField" "range" "Ljava/time/temporal/ValueRange;" (.ref rg)) (Erg : Exa Z Z.heap rg "java/time/temporal/ValueRange") (Fmn : Fld Z Z.heap rg "java/time/temporal/ValueRange" "minSmallest" "J" (.long (-365243219162 : Int64))) (Fmx : Fld Z Z.heap rg "java/time/temporal/ValueRange" "maxLargest" "J" (.long (365241780471 : Int64))) (SIn : Sta Z Z.heap "java/time/chrono/IsoChronology" "INSTANCE" "Ljava/time/chrono/IsoChronology;" (.ref iso)) (Eis : Exa Z Z.heap iso "java/time/chrono/IsoChronology") (Ea : Exa Z h0 a "java/time/LocalDate") (F1 : Fld Z h0 a "java/time/LocalDate" "year" "I" (.int y)) (F2 : Fld Z h0 a "java/time/LocalDate" "month" "S" (.int m_)) (F3 : Fld Z h0 a "java/time/LocalDate" "day" "S" (.int k)) (hD : own_D d.toInt y.toInt m_.toInt k.toInt) (hd : -100000200000 ≤ d.toInt ∧ d.toInt ≤ 100000200000) :
    MetFree l (⟨"java/time/LocalDate", "toEpochDay", "()J"⟩ : MethodName) (head1 (Jvm.Cond.code (⟨"java/time/LocalDate", "toEpochDay", "()J"⟩ : MethodName) jdk_2323_method_67_code 7 (some .long) :: ws) ({ frames := 2, cells := 0, slots := 0, locals := 26 } : Room)) (fun a_ U_ => a_ = #[(.ref a)] ∧ Z.Warmed39 U_.vm ∧ U_.heap = h0) (fun _ _ _ _ _ => True) (fun _ U_ o_ U'_ => ∃ v_ L_, o_ = .returned v_ ∧ QR (.long d) h0 n0 v_ U'_.heap L_ ∧ FrameEnd U_ o_ U'_ L_ ({ frames := 2, cells := 0, slots := 0, locals := 26 } : Room).cells ({ frames := 2, cells := 0, slots := 0, locals := 26 } : Room).slots) := by
  refine MetFree.of_bodySF (plainFor_of_name pn_2) hisR ?_
  intro p e s m args below meth c s₁ Bd hml0 hP hK
  obtain ⟨rfl, hZ, hh⟩ := hP
  have hx := Bd.exec
  have hby := Bd.bytes
  have hml : c.maxLocals = 7 := hml0
  have hown : s.vm.findClass "java/time/LocalDate" = some m.cls := findClass_of_methodNamed Bd.named
  have hnm := (name_of_methodNamed Bd.named Bd.method).1
  have hlk := BodyLoose.notSynchronized Bd
  have X0 : Stand p l e ({ frames := 2, cells := 0, slots := 0, locals := 26 } : Room) s m #[(.ref a)] below meth c s₁ [] 0 0 := Stand.of_body Bd
  have e0 : s₁.heap = h0 := by rw [← hh, Bd.state]; rfl
  have N0 := Fr.nil n0
  refine own_entry (P := own_End s (QR (.long d) h0 n0) ({ frames := 2, cells := 0, slots := 0, locals := 26 } : Room).cells ({ frames := 2, cells := 0, slots := 0, locals := 26 } : Room).slots) (ef_rmTE m a) ?_
  show own_Go p e below _ s₁ (mkF m 0 #[.val (.ref a), .unset, .unset, .unset, .unset, .unset, .unset] [])
  have c1_ := Exa.ext O0.2 Ecf
  have c2_ := Fld.ext O0.2 Frg
  have c3_ := Exa.ext O0.2 Erg
  have c4_ := Fld.ext O0.2 Fmn
  have c5_ := Fld.ext O0.2 Fmx
  have c6_ := Exa.ext O0.2 Eis
  refine own_st (fun t_ k_ => XS.aloadN X0.here hx rfl (hb hby d11_0) rfl rfl k_) ?_
  show own_Go p e below _ s₁ (mkF m 1 #[.val (.ref a), .unset, .unset, .unset, .unset, .unset, .unset] [(.ref a)])
  obtain ⟨T1, X1, e1, st1⟩ := getF X0 hx hZ hown (host := "") (Or.inl (hw _ (List.mem_of_getElem? (i := 62) rfl))) Via.refl e0 F1 (g := (mkF m 1 #[.val (.ref a), .unset, .unset, .unset, .unset, .unset, .unset] [(.ref a)])) rfl rfl (hb hby d11_1)
  refine own_st st1 ?_
  show own_Go p e below _ T1 (mkF m 4 #[.val (.ref a), .unset, .unset, .unset, .unset, .unset, .unset] [(.int y)])
  refine own_st (fun t_ k_ => XS.i2l X1.here hx rfl (hb hby d11_4) rfl k_) ?_
  show own_Go p e below _ T1 (mkF m 5 #[.val (.ref a), .unset, .unset, .unset, .unset, .unset, .unset] [(.long (y.toInt64))])
  refine own_st (fun t_ k_ => XS.lstoreN X1.here hx rfl (hb hby d11_5) rfl (l' := #[.val (.ref a), .val (.long (y.toInt64)), .second, .unset, .unset, .unset, .unset]) rfl k_) ?_
  show own_Go p e below _ T1 (mkF m 6 #[.val (.ref a), .val (.long (y.toInt64)), .second, .unset, .unset, .unset, .unset] [])
  refine own_st (fun t_ k_ => XS.aloadN X1.here hx rfl (hb hby d11_6) rfl rfl k_) ?_
  show own_Go p e below _ T1 (mkF m 7 #[.val (.ref a), .val (.long (y.toInt64)), .second, .unset, .unset, .unset, .unset] [(.ref a)])
  obtain ⟨T2, X2, e2, st2⟩ := getF X1 hx hZ hown (host := "") (Or.inl (hw _ (List.mem_of_getElem? (i := 64) rfl))) Via.refl e1 F2 (g := (mkF m 7 #[.val (.ref a), .val (.long (y.toInt64)), .second, .unset, .unset, .unset, .unset] [(.ref a)])) rfl rfl (hb hby d11_7)
  refine own_st st2 ?_
  show own_Go p e below _ T2 (mkF m 10 #[.val (.ref a), .val (.long (y.toInt64)), .second, .unset, .unset, .unset, .unset] [(.int m_)])
  refine own_st (fun t_ k_ => XS.i2l X2.here hx rfl (hb hby d11_10) rfl k_) ?_
  show own_Go p e below _ T2 (mkF m 11 #[.val (.ref a), .val (.long (y.toInt64)), .second, .unset, .unset, .unset, .unset] [(.long (m_.toInt64))])
  refine own_st (fun t_ k_ => XS.lstoreN X2.here hx rfl (hb hby d11_11) rfl (l' := #[.val (.ref a), .val (.long (y.toInt64)), .second, .val (.long (m_.toInt64)), .second, .unset, .unset]) rfl k_) ?_
  show own_Go p e below _ T2 (mkF m 12 #[.val (.ref a), .val (.long (y.toInt64)), .second, .val (.long (m_.toInt64)), .second, .unset, .unset] [])
  refine own_st (fun t_ k_ => XS.lconst X2.here hx rfl (hb hby d11_12) k_) ?_
  show own_Go p e below _ T2 (mkF m 13 #[.val (.ref a), .val (.long (y.toInt64)), .second, .val (.long (m_.toInt64)), .second, .unset, .unset] [(.long (0 : Int64))])
  refine own_st (fun t_ k_ => XS.lstore X2.here hx rfl (hb hby d11_13) rfl (l' := #[.val (.ref a), .val (.long (y.toInt64)), .second, .val (.long (m_.toInt64)), .second, .val (.long (0 : Int64)), .second]) rfl k_) ?_
  show own_Go p e below _ T2 (mkF m 15 #[.val (.ref a), .val (.long (y.toInt64)), .second, .val (.long (m_.toInt64)), .second, .val (.long (0 : Int64)), .second] [])
  refine own_st (fun t_ k_ => XS.lload X2.here hx rfl (hb hby d11_15) rfl k_) ?_
  show own_Go p e below _ T2 (mkF m 17 #[.val (.ref a), .val (.long (y.toInt64)), .second, .val (.long (m_.toInt64)), .second, .val (.long (0 : Int64)), .second] [(.long (0 : Int64))])
  refine own_st (fun t_ k_ => X2.ldc2J hx hown (mvT hZ (hw _ (List.mem_of_getElem? (i := 50) rfl))) rfl (hb hby d11_17) k_) ?_
  show own_Go p e below _ T2 (mkF m 20 #[.val (.ref a), .val (.long (y.toInt64)), .second, .val (.long (m_.toInt64)), .second, .val (.long (0 : Int64)), .second] [(.long (365 : Int64)), (.long (0 : Int64))])
  refine own_st (fun t_ k_ => XS.lloadN X2.here hx rfl (hb hby d11_20) rfl k_) ?_
  show own_Go p e below _ T2 (mkF m 21 #[.val (.ref a), .val (.long (y.toInt64)), .second, .val (.long (m_.toInt64)), .second, .val (.long (0 : Int64)), .second] [(.long (y.toInt64)), (.long (365 : Int64)), (.long (0 : Int64))])
  refine own_st (fun t_ k_ => XS.lmul X2.here hx rfl (hb hby d11_21) rfl k_) ?_
  show own_Go p e below _ T2 (mkF m 22 #[.val (.ref a), .val (.long (y.toInt64)), .second, .val (.long (m_.toInt64)), .second, .val (.long (0 : Int64)), .second] [(.long ((365 : Int64) * (y.toInt64))), (.long (0 : Int64))])
  refine own_st (fun t_ k_ => XS.ladd X2.here hx rfl (hb hby d11_22) rfl k_) ?_
  show own_Go p e below _ T2 (mkF m 23 #[.val (.ref a), .val (.long (y.toInt64)), .second, .val (.long (m_.toInt64)), .second, .val (.long (0 : Int64)), .second] [(.long ((0 : Int64) + ((365 : Int64) * (y.toInt64))))])
  have d_ta : ((0 : Int64) + ((365 : Int64) * (y.toInt64))).toInt = 365 * y.toInt := own_t1 y
  generalize h_ta : ((0 : Int64) + ((365 : Int64) * (y.toInt64))) = ta at d_ta ⊢
  show own_Go p e below _ T2 (mkF m 23 #[.val (.ref a), .val (.long (y.toInt64)), .second, .val (.long (m_.toInt64)), .second, .val (.long (0 : Int64)), .second] [(.long ta)])
  refine own_st (fun t_ k_ => XS.lstore X2.here hx rfl (hb hby d11_23) rfl (l' := #[.val (.ref a), .val (.long (y.toInt64)), .second, .val (.long (m_.toInt64)), .second, .val (.long ta), .second]) rfl k_) ?_
  show own_Go p e below _ T2 (mkF m 25 #[.val (.ref a), .val (.long (y.toInt64)), .second, .val (.long (m_.toInt64)), .second, .val (.long ta), .second] [])
  refine own_st (fun t_ k_ => XS.lloadN X2.here hx rfl (hb hby d11_25) rfl k_) ?_
  show own_Go p e below _ T2 (mkF m 26 #[.val (.ref a), .val (.long (y.toInt64)), .second, .val (.long (m_.toInt64)), .second, .val (.long ta), .second] [(.long (y.toInt64))])
  refine own_st (fun t_ k_ => XS.lconst X2.here hx rfl (hb hby d11_26) k_) ?_
  show own_Go p e below _ T2 (mkF m 27 #[.val (.ref a), .val (.long (y.toInt64)), .second, .val (.long (m_.toInt64)), .second, .val (.long ta), .second] [(.long (0 : Int64)), (.long (y.toInt64))])
  refine own_st (fun t_ k_ => XS.lcmp X2.here hx rfl (hb hby d11_27) rfl k_) ?_
  show own_Go p e below _ T2 (mkF m 28 #[.val (.ref a), .val (.long (y.toInt64)), .second, .val (.long (m_.toInt64)), .second, .val (.long ta), .second] [(.int (lcmpW (y.toInt64) (0 : Int64)))])
  refine own_join (α := Int64) (F := fun tb => tb.toInt = own_Lq y.toInt) (T' := T2) (g' := fun tb => (mkF m 90 #[.val (.ref a), .val (.long (y.toInt64)), .second, .val (.long (m_.toInt64)), .second, .val (.long tb), .second] [])) (fun tb h_tb => ?_) (fun J_tb => ?_)
  · show own_Go p e below _ T2 (mkF m 90 #[.val (.ref a), .val (.long (y.toInt64)), .second, .val (.long (m_.toInt64)), .second, .val (.long tb), .second] [])
    refine own_st (fun t_ k_ => XS.lload X2.here hx rfl (hb hby d11_90) rfl k_) ?_
    show own_Go p e below _ T2 (mkF m 92 #[.val (.ref a), .val (.long (y.toInt64)), .second, .val (.long (m_.toInt64)), .second, .val (.long tb), .second] [(.long tb)])
    refine own_st (fun t_ k_ => X2.ldc2J hx hown (mvT hZ (hw _ (List.mem_of_getElem? (i := 137) rfl))) rfl (hb hby d11_92) k_) ?_
    show own_Go p e below _ T2 (mkF m 95 #[.val (.ref a), .val (.long (y.toInt64)), .second, .val (.long (m_.toInt64)), .second, .val (.long tb), .second] [(.long (367 : Int64)), (.long tb)])
    refine own_st (fun t_ k_ => XS.lloadN X2.here hx rfl (hb hby d11_95) rfl k_) ?_
    show own_Go p e below _ T2 (mkF m 96 #[.val (.ref a), .val (.long (y.toInt64)), .second, .val (.long (m_.toInt64)), .second, .val (.long tb), .second] [(.long (m_.toInt64)), (.long (367 : Int64)), (.long tb)])
    refine own_st (fun t_ k_ => XS.lmul X2.here hx rfl (hb hby d11_96) rfl k_) ?_
    show own_Go p e below _ T2 (mkF m 97 #[.val (.ref a), .val (.long (y.toInt64)), .second, .val (.long (m_.toInt64)), .second, .val (.long tb), .second] [(.long ((367 : Int64) * (m_.toInt64))), (.long tb)])
    refine own_st (fun t_ k_ => X2.ldc2J hx hown (mvT hZ (hw _ (List.mem_of_getElem? (i := 138) rfl))) rfl (hb hby d11_97) k_) ?_
    show own_Go p e below _ T2 (mkF m 100 #[.val (.ref a), .val (.long (y.toInt64)), .second, .val (.long (m_.toInt64)), .second, .val (.long tb), .second] [(.long (362 : Int64)), (.long ((367 : Int64) * (m_.toInt64))), (.long tb)])
    refine own_st (fun t_ k_ => XS.lsub X2.here hx rfl (hb hby d11_100) rfl k_) ?_
    show own_Go p e below _ T2 (mkF m 101 #[.val (.ref a), .val (.long (y.toInt64)), .second, .val (.long (m_.toInt64)), .second, .val (.long tb), .second] [(.long (((367 : Int64) * (m_.toInt64)) - (362 : Int64))), (.long tb)])
    refine own_st (fun t_ k_ => X2.ldc2J hx hown (mvT hZ (hw _ (List.mem_of_getElem? (i := 139) rfl))) rfl (hb hby d11_101) k_) ?_
    show own_Go p e below _ T2 (mkF m 104 #[.val (.ref a), .val (.long (y.toInt64)), .second, .val (.long (m_.toInt64)), .second, .val (.long tb), .second] [(.long (12 : Int64)), (.long (((367 : Int64) * (m_.toInt64)) - (362 : Int64))), (.long tb)])
    refine own_st (fun t_ k_ => XS.ldiv X2.here hx rfl (hb hby d11_104) rfl (by decide) k_) ?_
    show own_Go p e below _ T2 (mkF m 105 #[.val (.ref a), .val (.long (y.toInt64)), .second, .val (.long (m_.toInt64)), .second, .val (.long tb), .second] [(.long ((((367 : Int64) * (m_.toInt64)) - (362 : Int64)) / (12 : Int64))), (.long tb)])
    refine own_st (fun t_ k_ => XS.ladd X2.here hx rfl (hb hby d11_105) rfl k_) ?_
    show own_Go p e below _ T2 (mkF m 106 #[.val (.ref a), .val (.long (y.toInt64)), .second, .val (.long (m_.toInt64)), .second, .val (.long tb), .second] [(.long (tb + ((((367 : Int64) * (m_.toInt64)) - (362 : Int64)) / (12 : Int64))))])
    have d_tc : (tb + ((((367 : Int64) * (m_.toInt64)) - (362 : Int64)) / (12 : Int64))).toInt = own_Lq y.toInt + (367 * m_.toInt - 362) / 12 := own_t3 tb y.toInt m_ h_tb ⟨hD.1, hD.2.1⟩ ⟨hD.2.2.1, hD.2.2.2.1⟩
    generalize h_tc : (tb + ((((367 : Int64) * (m_.toInt64)) - (362 : Int64)) / (12 : Int64))) = tc at d_tc ⊢
    show own_Go p e below _ T2 (mkF m 106 #[.val (.ref a), .val (.long (y.toInt64)), .second, .val (.long (m_.toInt64)), .second, .val (.long tb), .second] [(.long tc)])
    refine own_st (fun t_ k_ => XS.lstore X2.here hx rfl (hb hby d11_106) rfl (l' := #[.val (.ref a), .val (.long (y.toInt64)), .second, .val (.long (m_.toInt64)), .second, .val (.long tc), .second]) rfl k_) ?_
    show own_Go p e below _ T2 (mkF m 108 #[.val (.ref a), .val (.long (y.toInt64)), .second, .val (.long (m_.toInt64)), .second, .val (.long tc), .second] [])
    refine own_st (fun t_ k_ => XS.lload X2.here hx rfl (hb hby d11_108) rfl k_) ?_
    show own_Go p e below _ T2 (mkF m 110 #[.val (.ref a), .val (.long (y.toInt64)), .second, .val (.long (m_.toInt64)), .second, .val (.long tc), .second] [(.long tc)])
    refine own_st (fun t_ k_ => XS.aloadN X2.here hx rfl (hb hby d11_110) rfl rfl k_) ?_
    show own_Go p e below _ T2 (mkF m 111 #[.val (.ref a), .val (.long (y.toInt64)), .second, .val (.long (m_.toInt64)), .second, .val (.long tc), .second] [(.ref a), (.long tc)])
    obtain ⟨T3, X3, e3, st3⟩ := getF X2 hx hZ hown (host := "") (Or.inl (hw _ (List.mem_of_getElem? (i := 66) rfl))) Via.refl e2 F3 (g := (mkF m 111 #[.val (.ref a), .val (.long (y.toInt64)), .second, .val (.long (m_.toInt64)), .second, .val (.long tc), .second] [(.ref a), (.long tc)])) rfl rfl (hb hby d11_111)
    refine own_st st3 ?_
    show own_Go p e below _ T3 (mkF m 114 #[.val (.ref a), .val (.long (y.toInt64)), .second, .val (.long (m_.toInt64)), .second, .val (.long tc), .second] [(.int k), (.long tc)])
    refine own_st (fun t_ k_ => XS.iconst X3.here hx rfl (hb hby d11_114) k_) ?_
    show own_Go p e below _ T3 (mkF m 115 #[.val (.ref a), .val (.long (y.toInt64)), .second, .val (.long (m_.toInt64)), .second, .val (.long tc), .second] [(.int (1 : Int32)), (.int k), (.long tc)])
    refine own_st (fun t_ k_ => XS.isub X3.here hx rfl (hb hby d11_115) rfl k_) ?_
    show own_Go p e below _ T3 (mkF m 116 #[.val (.ref a), .val (.long (y.toInt64)), .second, .val (.long (m_.toInt64)), .second, .val (.long tc), .second] [(.int (k - (1 : Int32))), (.long tc)])
    refine own_st (fun t_ k_ => XS.i2l X3.here hx rfl (hb hby d11_116) rfl k_) ?_
    show own_Go p e below _ T3 (mkF m 117 #[.val (.ref a), .val (.long (y.toInt64)), .second, .val (.long (m_.toInt64)), .second, .val (.long tc), .second] [(.long ((k - (1 : Int32)).toInt64)), (.long tc)])
    refine own_st (fun t_ k_ => XS.ladd X3.here hx rfl (hb hby d11_117) rfl k_) ?_
    show own_Go p e below _ T3 (mkF m 118 #[.val (.ref a), .val (.long (y.toInt64)), .second, .val (.long (m_.toInt64)), .second, .val (.long tc), .second] [(.long (tc + ((k - (1 : Int32)).toInt64)))])
    have d_td : (tc + ((k - (1 : Int32)).toInt64)).toInt = own_Lq y.toInt + (367 * m_.toInt - 362) / 12 + k.toInt - 1 := (own_t4 tc k ⟨hD.2.2.2.2.1, hD.2.2.2.2.2.1⟩ (own_tcb hD d_tc)).trans (by rw [d_tc])
    generalize h_td : (tc + ((k - (1 : Int32)).toInt64)) = td at d_td ⊢
    show own_Go p e below _ T3 (mkF m 118 #[.val (.ref a), .val (.long (y.toInt64)), .second, .val (.long (m_.toInt64)), .second, .val (.long tc), .second] [(.long td)])
    refine own_st (fun t_ k_ => XS.lstore X3.here hx rfl (hb hby d11_118) rfl (l' := #[.val (.ref a), .val (.long (y.toInt64)), .second, .val (.long (m_.toInt64)), .second, .val (.long td), .second]) rfl k_) ?_
    show own_Go p e below _ T3 (mkF m 120 #[.val (.ref a), .val (.long (y.toInt64)), .second, .val (.long (m_.toInt64)), .second, .val (.long td), .second] [])
    refine own_st (fun t_ k_ => XS.lloadN X3.here hx rfl (hb hby d11_120) rfl k_) ?_
    show own_Go p e below _ T3 (mkF m 121 #[.val (.ref a), .val (.long (y.toInt64)), .second, .val (.long (m_.toInt64)), .second, .val (.long td), .second] [(.long (m_.toInt64))])
    refine own_st (fun t_ k_ => X3.ldc2J hx hown (mvT hZ (hw _ (List.mem_of_getElem? (i := 140) rfl))) rfl (hb hby d11_121) k_) ?_
    show own_Go p e below _ T3 (mkF m 124 #[.val (.ref a), .val (.long (y.toInt64)), .second, .val (.long (m_.toInt64)), .second, .val (.long td), .second] [(.long (2 : Int64)), (.long (m_.toInt64))])
    refine own_st (fun t_ k_ => XS.lcmp X3.here hx rfl (hb hby d11_124) rfl k_) ?_
    show own_Go p e below _ T3 (mkF m 125 #[.val (.ref a), .val (.long (y.toInt64)), .second, .val (.long (m_.toInt64)), .second, .val (.long td), .second] [(.int (lcmpW (m_.toInt64) (2 : Int64)))])
    by_cases hm_ : (0 : Int32) < (lcmpW (m_.toInt64) (2 : Int64))
    · refine own_st (fun t_ k_ => XS.ifNo X3.here hx rfl (hb hby d11_125) rfl ((if0 _ _).trans (tlt hm_).2.2.2) k_) ?_
      show own_Go p e below _ T3 (mkF m 128 #[.val (.ref a), .val (.long (y.toInt64)), .second, .val (.long (m_.toInt64)), .second, .val (.long td), .second] [])
      refine own_st (fun t_ k_ => XS.lload X3.here hx rfl (hb hby d11_128) rfl k_) ?_
      show own_Go p e below _ T3 (mkF m 130 #[.val (.ref a), .val (.long (y.toInt64)), .second, .val (.long (m_.toInt64)), .second, .val (.long td), .second] [(.long td)])
      refine own_st (fun t_ k_ => XS.lconst X3.here hx rfl (hb hby d11_130) k_) ?_
      show own_Go p e below _ T3 (mkF m 131 #[.val (.ref a), .val (.long (y.toInt64)), .second, .val (.long (m_.toInt64)), .second, .val (.long td), .second] [(.long (1 : Int64)), (.long td)])
      refine own_st (fun t_ k_ => XS.lsub X3.here hx rfl (hb hby d11_131) rfl k_) ?_
      show own_Go p e below _ T3 (mkF m 132 #[.val (.ref a), .val (.long (y.toInt64)), .second, .val (.long (m_.toInt64)), .second, .val (.long td), .second] [(.long (td - (1 : Int64)))])
      have d_te : (td - (1 : Int64)).toInt = td.toInt - 1 := own_m1L td (own_tdb hD d_td)
      generalize h_te : (td - (1 : Int64)) = te at d_te ⊢
      show own_Go p e below _ T3 (mkF m 132 #[.val (.ref a), .val (.long (y.toInt64)), .second, .val (.long (m_.toInt64)), .second, .val (.long td), .second] [(.long te)])
      refine own_st (fun t_ k_ => XS.lstore X3.here hx rfl (hb hby d11_132) rfl (l' := #[.val (.ref a), .val (.long (y.toInt64)), .second, .val (.long (m_.toInt64)), .second, .val (.long te), .second]) rfl k_) ?_
      show own_Go p e below _ T3 (mkF m 134 #[.val (.ref a), .val (.long (y.toInt64)), .second, .val (.long (m_.toInt64)), .second, .val (.long te), .second] [])
      refine own_st (fun t_ k_ => XS.aloadN X3.here hx rfl (hb hby d11_134) rfl rfl k_) ?_
      show own_Go p e below _ T3 (mkF m 135 #[.val (.ref a), .val (.long (y.toInt64)), .second, .val (.long (m_.toInt64)), .second, .val (.long te), .second] [(.ref a)])
      obtain ⟨cq5, kq5, q5a, q5b, q5c⟩ := isOf hZ e3 Ea
      refine own_callV X3 hx (y := (⟨"java/time/LocalDate", "isLeapYear", "()Z"⟩ : MethodName)) (z := (⟨"java/time/LocalDate", "isLeapYear", "()Z"⟩ : MethodName)) hown (mvT hZ (hw _ (List.mem_of_getElem? (i := 164) rfl))) (mvT hZ (hw _ (List.mem_of_getElem? (i := 165) rfl))) (notFace_of_selects (args := #[]) (mvT hZ (hw _ (List.mem_of_getElem? (i := 167) rfl)))) (mvT hZ (hw _ (List.mem_of_getElem? (i := 167) rfl))) (mvT hZ (hw _ (List.mem_of_getElem? (i := 166) rfl))) (by decide) (backOf (W := 0) (rmJL l Z a0 hw [] a y cf rg iso h0 n0 (Nat.le_trans Z0 (Keep.refl h0 []).1) O0 SEp Ecf Frg Erg Fmn Fmx SIn Eis F1) hZ (hw _ (List.mem_of_getElem? (i := 168) rfl)) (hw _ (List.mem_of_getElem? (i := 4) rfl)) (by decide) (by decide)) q5a q5c (g := (mkF m 135 #[.val (.ref a), .val (.long (y.toInt64)), .second, .val (.long (m_.toInt64)), .second, .val (.long te), .second] [(.ref a)])) rfl (by rw [hml]; rfl) (argsL := []) (rest := []) (lenOf pd_6 rfl) rfl (by show 2 * 0 + _ ≤ _; exact Nat.le_of_eq rfl) (hb hby d11_135) rfl e3 (by decide) (by decide) ?_
      rintro v4 T4 L4 X4 ⟨r4, rfl, Nq4, hh4, hr4⟩
      have N4 := Fr.app N0 Nq4
      show own_Go p e below _ T4 (mkF m 138 #[.val (.ref a), .val (.long (y.toInt64)), .second, .val (.long (m_.toInt64)), .second, .val (.long te), .second] [(.int r4)])
      rcases hr4 with ⟨rfl, hlp⟩ | ⟨rfl, hlp⟩
      · show own_Go p e below _ T4 (mkF m 138 #[.val (.ref a), .val (.long (y.toInt64)), .second, .val (.long (m_.toInt64)), .second, .val (.long te), .second] [(.int (1 : Int32))])
        refine own_st (fun t_ k_ => XS.ifYes X4.here hx rfl (pc0 := 138) (pc' := 147) rfl (hb hby d11_138) rfl (by decide) (by decide) (by decide) k_) ?_
        show own_Go p e below _ T4 (mkF m 147 #[.val (.ref a), .val (.long (y.toInt64)), .second, .val (.long (m_.toInt64)), .second, .val (.long te), .second] [])
        refine own_st (fun t_ k_ => XS.lload X4.here hx rfl (hb hby d11_147) rfl k_) ?_
        show own_Go p e below _ T4 (mkF m 149 #[.val (.ref a), .val (.long (y.toInt64)), .second, .val (.long (m_.toInt64)), .second, .val (.long te), .second] [(.long te)])
        refine own_st (fun t_ k_ => X4.ldc2J hx hown (mvT hZ (hw _ (List.mem_of_getElem? (i := 45) rfl))) rfl (hb hby d11_149) k_) ?_
        show own_Go p e below _ T4 (mkF m 152 #[.val (.ref a), .val (.long (y.toInt64)), .second, .val (.long (m_.toInt64)), .second, .val (.long te), .second] [(.long (719528 : Int64)), (.long te)])
        refine own_st (fun t_ k_ => XS.lsub X4.here hx rfl (hb hby d11_152) rfl k_) ?_
        show own_Go p e below _ T4 (mkF m 153 #[.val (.ref a), .val (.long (y.toInt64)), .second, .val (.long (m_.toInt64)), .second, .val (.long te), .second] [(.long (te - (719528 : Int64)))])
        refine own_retJ X4 hx hlk Bd.returns (hb hby d11_153) ?_ (by decide) (by decide)
        show QR (.long d) h0 n0 _ T4.heap _
        rw [hh4]
        exact ⟨by rw [own_te hd (own_r2 hD (own_m2.mp hm_) d_td hlp d_te)], N4, rfl⟩
      · show own_Go p e below _ T4 (mkF m 138 #[.val (.ref a), .val (.long (y.toInt64)), .second, .val (.long (m_.toInt64)), .second, .val (.long te), .second] [(.int (0 : Int32))])
        refine own_st (fun t_ k_ => XS.ifNo X4.here hx rfl (hb hby d11_138) rfl (by decide) k_) ?_
        show own_Go p e below _ T4 (mkF m 141 #[.val (.ref a), .val (.long (y.toInt64)), .second, .val (.long (m_.toInt64)), .second, .val (.long te), .second] [])
        refine own_st (fun t_ k_ => XS.lload X4.here hx rfl (hb hby d11_141) rfl k_) ?_
        show own_Go p e below _ T4 (mkF m 143 #[.val (.ref a), .val (.long (y.toInt64)), .second, .val (.long (m_.toInt64)), .second, .val (.long te), .second] [(.long te)])
        refine own_st (fun t_ k_ => XS.lconst X4.here hx rfl (hb hby d11_143) k_) ?_
        show own_Go p e below _ T4 (mkF m 144 #[.val (.ref a), .val (.long (y.toInt64)), .second, .val (.long (m_.toInt64)), .second, .val (.long te), .second] [(.long (1 : Int64)), (.long te)])
        refine own_st (fun t_ k_ => XS.lsub X4.here hx rfl (hb hby d11_144) rfl k_) ?_
        show own_Go p e below _ T4 (mkF m 145 #[.val (.ref a), .val (.long (y.toInt64)), .second, .val (.long (m_.toInt64)), .second, .val (.long te), .second] [(.long (te - (1 : Int64)))])
        have d_tf : (te - (1 : Int64)).toInt = te.toInt - 1 := own_m1L te (own_teb2 hD d_td d_te)
        generalize h_tf : (te - (1 : Int64)) = tf at d_tf ⊢
        show own_Go p e below _ T4 (mkF m 145 #[.val (.ref a), .val (.long (y.toInt64)), .second, .val (.long (m_.toInt64)), .second, .val (.long te), .second] [(.long tf)])
        refine own_st (fun t_ k_ => XS.lstore X4.here hx rfl (hb hby d11_145) rfl (l' := #[.val (.ref a), .val (.long (y.toInt64)), .second, .val (.long (m_.toInt64)), .second, .val (.long tf), .second]) rfl k_) ?_
        show own_Go p e below _ T4 (mkF m 147 #[.val (.ref a), .val (.long (y.toInt64)), .second, .val (.long (m_.toInt64)), .second, .val (.long tf), .second] [])
        refine own_st (fun t_ k_ => XS.lload X4.here hx rfl (hb hby d11_147) rfl k_) ?_
        show own_Go p e below _ T4 (mkF m 149 #[.val (.ref a), .val (.long (y.toInt64)), .second, .val (.long (m_.toInt64)), .second, .val (.long tf), .second] [(.long tf)])
        refine own_st (fun t_ k_ => X4.ldc2J hx hown (mvT hZ (hw _ (List.mem_of_getElem? (i := 45) rfl))) rfl (hb hby d11_149) k_) ?_
        show own_Go p e below _ T4 (mkF m 152 #[.val (.ref a), .val (.long (y.toInt64)), .second, .val (.long (m_.toInt64)), .second, .val (.long tf), .second] [(.long (719528 : Int64)), (.long tf)])
        refine own_st (fun t_ k_ => XS.lsub X4.here hx rfl (hb hby d11_152) rfl k_) ?_
        show own_Go p e below _ T4 (mkF m 153 #[.val (.ref a), .val (.long (y.toInt64)), .second, .val (.long (m_.toInt64)), .second, .val (.long tf), .second] [(.long (tf - (719528 : Int64)))])
        refine own_retJ X4 hx hlk Bd.returns (hb hby d11_153) ?_ (by decide) (by decide)
        show QR (.long d) h0 n0 _ T4.heap _
        rw [hh4]
        exact ⟨by rw [own_te hd (own_r3 hD (own_m2.mp hm_) d_td hlp d_te d_tf)], N4, rfl⟩
    · refine own_st (fun t_ k_ => XS.ifYes X3.here hx rfl (pc0 := 125) (pc' := 147) rfl (hb hby d11_125) rfl ((if0 _ _).trans (flt hm_).2.2.2) (by decide) (by decide) k_) ?_
      show own_Go p e below _ T3 (mkF m 147 #[.val (.ref a), .val (.long (y.toInt64)), .second, .val (.long (m_.toInt64)), .second, .val (.long td), .second] [])
      refine own_st (fun t_ k_ => XS.lload X3.here hx rfl (hb hby d11_147) rfl k_) ?_
      show own_Go p e below _ T3 (mkF m 149 #[.val (.ref a), .val (.long (y.toInt64)), .second, .val (.long (m_.toInt64)), .second, .val (.long td), .second] [(.long td)])
      refine own_st (fun t_ k_ => X3.ldc2J hx hown (mvT hZ (hw _ (List.mem_of_getElem? (i := 45) rfl))) rfl (hb hby d11_149) k_) ?_
      show own_Go p e below _ T3 (mkF m 152 #[.val (.ref a), .val (.long (y.toInt64)), .second, .val (.long (m_.toInt64)), .second, .val (.long td), .second] [(.long (719528 : Int64)), (.long td)])
      refine own_st (fun t_ k_ => XS.lsub X3.here hx rfl (hb hby d11_152) rfl k_) ?_
      show own_Go p e below _ T3 (mkF m 153 #[.val (.ref a), .val (.long (y.toInt64)), .second, .val (.long (m_.toInt64)), .second, .val (.long td), .second] [(.long (td - (719528 : Int64)))])
      refine own_retJ X3 hx hlk Bd.returns (hb hby d11_153) ?_ (by decide) (by decide)
      show QR (.long d) h0 n0 _ T3.heap _
      rw [e3]
      exact ⟨by rw [own_te hd (own_r1 hD (Int.not_lt.mp (fun q => hm_ (own_m2.mpr q))) d_td)], N0, rfl⟩
  · show own_Go p e below _ T2 (mkF m 28 #[.val (.ref a), .val (.long (y.toInt64)), .second, .val (.long (m_.toInt64)), .second, .val (.long ta), .second] [(.int (lcmpW (y.toInt64) (0 : Int64)))])
    by_cases hy_ : (lcmpW (y.toInt64) (0 : Int64)) < (0 : Int32)
    · refine own_st (fun t_ k_ => XS.ifYes X2.here hx rfl (pc0 := 28) (pc' := 68) rfl (hb hby d11_28) rfl ((if0 _ _).trans (tlt hy_).1) (by decide) (by decide) k_) ?_
      show own_Go p e below _ T2 (mkF m 68 #[.val (.ref a), .val (.long (y.toInt64)), .second, .val (.long (m_.toInt64)), .second, .val (.long ta), .second] [])
      refine own_st (fun t_ k_ => XS.lload X2.here hx rfl (hb hby d11_68) rfl k_) ?_
      show own_Go p e below _ T2 (mkF m 70 #[.val (.ref a), .val (.long (y.toInt64)), .second, .val (.long (m_.toInt64)), .second, .val (.long ta), .second] [(.long ta)])
      refine own_st (fun t_ k_ => XS.lloadN X2.here hx rfl (hb hby d11_70) rfl k_) ?_
      show own_Go p e below _ T2 (mkF m 71 #[.val (.ref a), .val (.long (y.toInt64)), .second, .val (.long (m_.toInt64)), .second, .val (.long ta), .second] [(.long (y.toInt64)), (.long ta)])
      refine own_st (fun t_ k_ => X2.ldc2J hx hown (mvT hZ (hw _ (List.mem_of_getElem? (i := 161) rfl))) rfl (hb hby d11_71) k_) ?_
      show own_Go p e below _ T2 (mkF m 74 #[.val (.ref a), .val (.long (y.toInt64)), .second, .val (.long (m_.toInt64)), .second, .val (.long ta), .second] [(.long (-4 : Int64)), (.long (y.toInt64)), (.long ta)])
      refine own_st (fun t_ k_ => XS.ldiv X2.here hx rfl (hb hby d11_74) rfl (by decide) k_) ?_
      show own_Go p e below _ T2 (mkF m 75 #[.val (.ref a), .val (.long (y.toInt64)), .second, .val (.long (m_.toInt64)), .second, .val (.long ta), .second] [(.long ((y.toInt64) / (-4 : Int64))), (.long ta)])
      refine own_st (fun t_ k_ => XS.lloadN X2.here hx rfl (hb hby d11_75) rfl k_) ?_
      show own_Go p e below _ T2 (mkF m 76 #[.val (.ref a), .val (.long (y.toInt64)), .second, .val (.long (m_.toInt64)), .second, .val (.long ta), .second] [(.long (y.toInt64)), (.long ((y.toInt64) / (-4 : Int64))), (.long ta)])
      refine own_st (fun t_ k_ => X2.ldc2J hx hown (mvT hZ (hw _ (List.mem_of_getElem? (i := 162) rfl))) rfl (hb hby d11_76) k_) ?_
      show own_Go p e below _ T2 (mkF m 79 #[.val (.ref a), .val (.long (y.toInt64)), .second, .val (.long (m_.toInt64)), .second, .val (.long ta), .second] [(.long (-100 : Int64)), (.long (y.toInt64)), (.long ((y.toInt64) / (-4 : Int64))), (.long ta)])
      refine own_st (fun t_ k_ => XS.ldiv X2.here hx rfl (hb hby d11_79) rfl (by decide) k_) ?_
      show own_Go p e below _ T2 (mkF m 80 #[.val (.ref a), .val (.long (y.toInt64)), .second, .val (.long (m_.toInt64)), .second, .val (.long ta), .second] [(.long ((y.toInt64) / (-100 : Int64))), (.long ((y.toInt64) / (-4 : Int64))), (.long ta)])
      refine own_st (fun t_ k_ => XS.lsub X2.here hx rfl (hb hby d11_80) rfl k_) ?_
      show own_Go p e below _ T2 (mkF m 81 #[.val (.ref a), .val (.long (y.toInt64)), .second, .val (.long (m_.toInt64)), .second, .val (.long ta), .second] [(.long (((y.toInt64) / (-4 : Int64)) - ((y.toInt64) / (-100 : Int64)))), (.long ta)])
      refine own_st (fun t_ k_ => XS.lloadN X2.here hx rfl (hb hby d11_81) rfl k_) ?_
      show own_Go p e below _ T2 (mkF m 82 #[.val (.ref a), .val (.long (y.toInt64)), .second, .val (.long (m_.toInt64)), .second, .val (.long ta), .second] [(.long (y.toInt64)), (.long (((y.toInt64) / (-4 : Int64)) - ((y.toInt64) / (-100 : Int64)))), (.long ta)])
      refine own_st (fun t_ k_ => X2.ldc2J hx hown (mvT hZ (hw _ (List.mem_of_getElem? (i := 163) rfl))) rfl (hb hby d11_82) k_) ?_
      show own_Go p e below _ T2 (mkF m 85 #[.val (.ref a), .val (.long (y.toInt64)), .second, .val (.long (m_.toInt64)), .second, .val (.long ta), .second] [(.long (-400 : Int64)), (.long (y.toInt64)), (.long (((y.toInt64) / (-4 : Int64)) - ((y.toInt64) / (-100 : Int64)))), (.long ta)])
      refine own_st (fun t_ k_ => XS.ldiv X2.here hx rfl (hb hby d11_85) rfl (by decide) k_) ?_
      show own_Go p e below _ T2 (mkF m 86 #[.val (.ref a), .val (.long (y.toInt64)), .second, .val (.long (m_.toInt64)), .second, .val (.long ta), .second] [(.long ((y.toInt64) / (-400 : Int64))), (.long (((y.toInt64) / (-4 : Int64)) - ((y.toInt64) / (-100 : Int64)))), (.long ta)])
      refine own_st (fun t_ k_ => XS.ladd X2.here hx rfl (hb hby d11_86) rfl k_) ?_
      show own_Go p e below _ T2 (mkF m 87 #[.val (.ref a), .val (.long (y.toInt64)), .second, .val (.long (m_.toInt64)), .second, .val (.long ta), .second] [(.long ((((y.toInt64) / (-4 : Int64)) - ((y.toInt64) / (-100 : Int64))) + ((y.toInt64) / (-400 : Int64)))), (.long ta)])
      refine own_st (fun t_ k_ => XS.lsub X2.here hx rfl (hb hby d11_87) rfl k_) ?_
      show own_Go p e below _ T2 (mkF m 88 #[.val (.ref a), .val (.long (y.toInt64)), .second, .val (.long (m_.toInt64)), .second, .val (.long ta), .second] [(.long (ta - ((((y.toInt64) / (-4 : Int64)) - ((y.toInt64) / (-100 : Int64))) + ((y.toInt64) / (-400 : Int64)))))])
      refine own_st (fun t_ k_ => XS.lstore X2.here hx rfl (hb hby d11_88) rfl (l' := #[.val (.ref a), .val (.long (y.toInt64)), .second, .val (.long (m_.toInt64)), .second, .val (.long (ta - ((((y.toInt64) / (-4 : Int64)) - ((y.toInt64) / (-100 : Int64))) + ((y.toInt64) / (-400 : Int64))))), .second]) rfl k_) ?_
      show own_Go p e below _ T2 (mkF m 90 #[.val (.ref a), .val (.long (y.toInt64)), .second, .val (.long (m_.toInt64)), .second, .val (.long (ta - ((((y.toInt64) / (-4 : Int64)) - ((y.toInt64) / (-100 : Int64))) + ((y.toInt64) / (-400 : Int64))))), .second] [])
      exact J_tb _ (own_t2b ta y d_ta (own_yl.mp hy_))
    · refine own_st (fun t_ k_ => XS.ifNo X2.here hx rfl (hb hby d11_28) rfl ((if0 _ _).trans (flt hy_).1) k_) ?_
      show own_Go p e below _ T2 (mkF m 31 #[.val (.ref a), .val (.long (y.toInt64)), .second, .val (.long (m_.toInt64)), .second, .val (.long ta), .second] [])
      refine own_st (fun t_ k_ => XS.lload X2.here hx rfl (hb hby d11_31) rfl k_) ?_
      show own_Go p e below _ T2 (mkF m 33 #[.val (.ref a), .val (.long (y.toInt64)), .second, .val (.long (m_.toInt64)), .second, .val (.long ta), .second] [(.long ta)])
      refine own_st (fun t_ k_ => XS.lloadN X2.here hx rfl (hb hby d11_33) rfl k_) ?_
      show own_Go p e below _ T2 (mkF m 34 #[.val (.ref a), .val (.long (y.toInt64)), .second, .val (.long (m_.toInt64)), .second, .val (.long ta), .second] [(.long (y.toInt64)), (.long ta)])
      refine own_st (fun t_ k_ => X2.ldc2J hx hown (mvT hZ (hw _ (List.mem_of_getElem? (i := 134) rfl))) rfl (hb hby d11_34) k_) ?_
      show own_Go p e below _ T2 (mkF m 37 #[.val (.ref a), .val (.long (y.toInt64)), .second, .val (.long (m_.toInt64)), .second, .val (.long ta), .second] [(.long (3 : Int64)), (.long (y.toInt64)), (.long ta)])
      refine own_st (fun t_ k_ => XS.ladd X2.here hx rfl (hb hby d11_37) rfl k_) ?_
      show own_Go p e below _ T2 (mkF m 38 #[.val (.ref a), .val (.long (y.toInt64)), .second, .val (.long (m_.toInt64)), .second, .val (.long ta), .second] [(.long ((y.toInt64) + (3 : Int64))), (.long ta)])
      refine own_st (fun t_ k_ => X2.ldc2J hx hown (mvT hZ (hw _ (List.mem_of_getElem? (i := 51) rfl))) rfl (hb hby d11_38) k_) ?_
      show own_Go p e below _ T2 (mkF m 41 #[.val (.ref a), .val (.long (y.toInt64)), .second, .val (.long (m_.toInt64)), .second, .val (.long ta), .second] [(.long (4 : Int64)), (.long ((y.toInt64) + (3 : Int64))), (.long ta)])
      refine own_st (fun t_ k_ => XS.ldiv X2.here hx rfl (hb hby d11_41) rfl (by decide) k_) ?_
      show own_Go p e below _ T2 (mkF m 42 #[.val (.ref a), .val (.long (y.toInt64)), .second, .val (.long (m_.toInt64)), .second, .val (.long ta), .second] [(.long (((y.toInt64) + (3 : Int64)) / (4 : Int64))), (.long ta)])
      refine own_st (fun t_ k_ => XS.lloadN X2.here hx rfl (hb hby d11_42) rfl k_) ?_
      show own_Go p e below _ T2 (mkF m 43 #[.val (.ref a), .val (.long (y.toInt64)), .second, .val (.long (m_.toInt64)), .second, .val (.long ta), .second] [(.long (y.toInt64)), (.long (((y.toInt64) + (3 : Int64)) / (4 : Int64))), (.long ta)])
      refine own_st (fun t_ k_ => X2.ldc2J hx hown (mvT hZ (hw _ (List.mem_of_getElem? (i := 135) rfl))) rfl (hb hby d11_43) k_) ?_
      show own_Go p e below _ T2 (mkF m 46 #[.val (.ref a), .val (.long (y.toInt64)), .second, .val (.long (m_.toInt64)), .second, .val (.long ta), .second] [(.long (99 : Int64)), (.long (y.toInt64)), (.long (((y.toInt64) + (3 : Int64)) / (4 : Int64))), (.long ta)])
      refine own_st (fun t_ k_ => XS.ladd X2.here hx rfl (hb hby d11_46) rfl k_) ?_
      show own_Go p e below _ T2 (mkF m 47 #[.val (.ref a), .val (.long (y.toInt64)), .second, .val (.long (m_.toInt64)), .second, .val (.long ta), .second] [(.long ((y.toInt64) + (99 : Int64))), (.long (((y.toInt64) + (3 : Int64)) / (4 : Int64))), (.long ta)])
      refine own_st (fun t_ k_ => X2.ldc2J hx hown (mvT hZ (hw _ (List.mem_of_getElem? (i := 52) rfl))) rfl (hb hby d11_47) k_) ?_
      show own_Go p e below _ T2 (mkF m 50 #[.val (.ref a), .val (.long (y.toInt64)), .second, .val (.long (m_.toInt64)), .second, .val (.long ta), .second] [(.long (100 : Int64)), (.long ((y.toInt64) + (99 : Int64))), (.long (((y.toInt64) + (3 : Int64)) / (4 : Int64))), (.long ta)])
      refine own_st (fun t_ k_ => XS.ldiv X2.here hx rfl (hb hby d11_50) rfl (by decide) k_) ?_
      show own_Go p e below _ T2 (mkF m 51 #[.val (.ref a), .val (.long (y.toInt64)), .second, .val (.long (m_.toInt64)), .second, .val (.long ta), .second] [(.long (((y.toInt64) + (99 : Int64)) / (100 : Int64))), (.long (((y.toInt64) + (3 : Int64)) / (4 : Int64))), (.long ta)])
      refine own_st (fun t_ k_ => XS.lsub X2.here hx rfl (hb hby d11_51) rfl k_) ?_
      show own_Go p e below _ T2 (mkF m 52 #[.val (.ref a), .val (.long (y.toInt64)), .second, .val (.long (m_.toInt64)), .second, .val (.long ta), .second] [(.long ((((y.toInt64) + (3 : Int64)) / (4 : Int64)) - (((y.toInt64) + (99 : Int64)) / (100 : Int64)))), (.long ta)])
      refine own_st (fun t_ k_ => XS.lloadN X2.here hx rfl (hb hby d11_52) rfl k_) ?_
      show own_Go p e below _ T2 (mkF m 53 #[.val (.ref a), .val (.long (y.toInt64)), .second, .val (.long (m_.toInt64)), .second, .val (.long ta), .second] [(.long (y.toInt64)), (.long ((((y.toInt64) + (3 : Int64)) / (4 : Int64)) - (((y.toInt64) + (99 : Int64)) / (100 : Int64)))), (.long ta)])
      refine own_st (fun t_ k_ => X2.ldc2J hx hown (mvT hZ (hw _ (List.mem_of_getElem? (i := 136) rfl))) rfl (hb hby d11_53) k_) ?_
      show own_Go p e below _ T2 (mkF m 56 #[.val (.ref a), .val (.long (y.toInt64)), .second, .val (.long (m_.toInt64)), .second, .val (.long ta), .second] [(.long (399 : Int64)), (.long (y.toInt64)), (.long ((((y.toInt64) + (3 : Int64)) / (4 : Int64)) - (((y.toInt64) + (99 : Int64)) / (100 : Int64)))), (.long ta)])
      refine own_st (fun t_ k_ => XS.ladd X2.here hx rfl (hb hby d11_56) rfl k_) ?_
      show own_Go p e below _ T2 (mkF m 57 #[.val (.ref a), .val (.long (y.toInt64)), .second, .val (.long (m_.toInt64)), .second, .val (.long ta), .second] [(.long ((y.toInt64) + (399 : Int64))), (.long ((((y.toInt64) + (3 : Int64)) / (4 : Int64)) - (((y.toInt64) + (99 : Int64)) / (100 : Int64)))), (.long ta)])
      refine own_st (fun t_ k_ => X2.ldc2J hx hown (mvT hZ (hw _ (List.mem_of_getElem? (i := 47) rfl))) rfl (hb hby d11_57) k_) ?_
      show own_Go p e below _ T2 (mkF m 60 #[.val (.ref a), .val (.long (y.toInt64)), .second, .val (.long (m_.toInt64)), .second, .val (.long ta), .second] [(.long (400 : Int64)), (.long ((y.toInt64) + (399 : Int64))), (.long ((((y.toInt64) + (3 : Int64)) / (4 : Int64)) - (((y.toInt64) + (99 : Int64)) / (100 : Int64)))), (.long ta)])
      refine own_st (fun t_ k_ => XS.ldiv X2.here hx rfl (hb hby d11_60) rfl (by decide) k_) ?_
      show own_Go p e below _ T2 (mkF m 61 #[.val (.ref a), .val (.long (y.toInt64)), .second, .val (.long (m_.toInt64)), .second, .val (.long ta), .second] [(.long (((y.toInt64) + (399 : Int64)) / (400 : Int64))), (.long ((((y.toInt64) + (3 : Int64)) / (4 : Int64)) - (((y.toInt64) + (99 : Int64)) / (100 : Int64)))), (.long ta)])
      refine own_st (fun t_ k_ => XS.ladd X2.here hx rfl (hb hby d11_61) rfl k_) ?_
      show own_Go p e below _ T2 (mkF m 62 #[.val (.ref a), .val (.long (y.toInt64)), .second, .val (.long (m_.toInt64)), .second, .val (.long ta), .second] [(.long (((((y.toInt64) + (3 : Int64)) / (4 : Int64)) - (((y.toInt64) + (99 : Int64)) / (100 : Int64))) + (((y.toInt64) + (399 : Int64)) / (400 : Int64)))), (.long ta)])
      refine own_st (fun t_ k_ => XS.ladd X2.here hx rfl (hb hby d11_62) rfl k_) ?_
      show own_Go p e below _ T2 (mkF m 63 #[.val (.ref a), .val (.long (y.toInt64)), .second, .val (.long (m_.toInt64)), .second, .val (.long ta), .second] [(.long (ta + (((((y.toInt64) + (3 : Int64)) / (4 : Int64)) - (((y.toInt64) + (99 : Int64)) / (100 : Int64))) + (((y.toInt64) + (399 : Int64)) / (400 : Int64)))))])
      refine own_st (fun t_ k_ => XS.lstore X2.here hx rfl (hb hby d11_63) rfl (l' := #[.val (.ref a), .val (.long (y.toInt64)), .second, .val (.long (m_.toInt64)), .second, .val (.long (ta + (((((y.toInt64) + (3 : Int64)) / (4 : Int64)) - (((y.toInt64) + (99 : Int64)) / (100 : Int64))) + (((y.toInt64) + (399 : Int64)) / (400 : Int64))))), .second]) rfl k_) ?_
      show own_Go p e below _ T2 (mkF m 65 #[.val (.ref a), .val (.long (y.toInt64)), .second, .val (.long (m_.toInt64)), .second, .val (.long (ta + (((((y.toInt64) + (3 : Int64)) / (4 : Int64)) - (((y.toInt64) + (99 : Int64)) / (100 : Int64))) + (((y.toInt64) + (399 : Int64)) / (400 : Int64))))), .second] [])
      refine own_st (fun t_ k_ => XS.goto X2.here hx rfl (pc0 := 65) (pc' := 90) rfl (hb hby d11_65) (by decide) (by decide) k_) ?_
      show own_Go p e below _ T2 (mkF m 90 #[.val (.ref a), .val (.long (y.toInt64)), .second, .val (.long (m_.toInt64)), .second, .val (.long (ta + (((((y.toInt64) + (3 : Int64)) / (4 : Int64)) - (((y.toInt64) + (99 : Int64)) / (100 : Int64))) + (((y.toInt64) + (399 : Int64)) / (400 : Int64))))), .second] [])
      exact J_tb _ (own_t2a ta y d_ta (fun q => hy_ (own_yl.mpr q)))
theorem d12_0 : decode jdk_29_method_69_code 0 = .ok (.iload_n 0, 1) := by decide +kernel
theorem d12_1 : decode jdk_29_method_69_code 1 = .ok (.iload_n 1, 1) := by decide +kernel
theorem d12_2 : decode jdk_29_method_69_code 2 = .ok (.if_icmp .gt 7, 3) := by decide +kernel
theorem d12_9 : decode jdk_29_method_69_code 9 = .ok (.iload_n 1, 1) := by decide +kernel
theorem d12_10 : decode jdk_29_method_69_code 10 = .ok (.ireturn, 1) := by decide +kernel
theorem ef_rmMI0 (m : MethodId) (x0 : Int32) (x1 : Int32) : entryFrame m #[(.int x0), (.int x1)] 2 = mkF m 0 #[.val (.int x0), .val (.int x1)] [] := by first | (simp [entryFrame, mkF, argsToLocals, Value.category]; done) | rfl
set_option maxRecDepth 65536 in
set_option maxHeartbeats 40000000 in
theorem rmMI0 (l : Launch) (Z : State) (a0 : Array Value) (hw : ∀ d ∈ tables_1, d.before a0 Z = true) (ws : List Jvm.Cond)  (h0 : Heap) (n0 : Nat) (Z0 : n0 ≤ h0.size) :
    MetFree l (⟨"java/lang/Math", "min", "(II)I"⟩ : MethodName) (head1 (Jvm.Cond.code (⟨"java/lang/Math", "min", "(II)I"⟩ : MethodName) jdk_29_method_69_code 2 (some .int) :: ws) ({ frames := 0, cells := 0, slots := 0, locals := 0 } : Room)) (fun a_ U_ => a_ = #[(.int (256 : Int32)), (.int (0 : Int32))] ∧ Z.Warmed39 U_.vm ∧ U_.heap = h0) (fun _ _ _ _ _ => True) (fun _ U_ o_ U'_ => ∃ v_ L_, o_ = .returned v_ ∧ QR (.int (0 : Int32)) h0 n0 v_ U'_.heap L_ ∧ FrameEnd U_ o_ U'_ L_ ({ frames := 0, cells := 0, slots := 0, locals := 0 } : Room).cells ({ frames := 0, cells := 0, slots := 0, locals := 0 } : Room).slots) := by
  refine MetFree.of_bodySF (Jvm.Free.JP.mathPlain rfl (by decide +kernel)) hisR ?_
  intro p e s m args below meth c s₁ Bd hml0 hP hK
  obtain ⟨rfl, hZ, hh⟩ := hP
  have hx := Bd.exec
  have hby := Bd.bytes
  have hml : c.maxLocals = 2 := hml0
  have hown : s.vm.findClass "java/lang/Math" = some m.cls := findClass_of_methodNamed Bd.named
  have hnm := (name_of_methodNamed Bd.named Bd.method).1
  have hlk := BodyLoose.notSynchronized Bd
  have X0 : Stand p l e ({ frames := 0, cells := 0, slots := 0, locals := 0 } : Room) s m #[(.int (256 : Int32)), (.int (0 : Int32))] below meth c s₁ [] 0 0 := Stand.of_body Bd
  have e0 : s₁.heap = h0 := by rw [← hh, Bd.state]; rfl
  have N0 := Fr.nil n0
  refine own_entry (P := own_End s (QR (.int (0 : Int32)) h0 n0) ({ frames := 0, cells := 0, slots := 0, locals := 0 } : Room).cells ({ frames := 0, cells := 0, slots := 0, locals := 0 } : Room).slots) (ef_rmMI0 m (256 : Int32) (0 : Int32)) ?_
  show own_Go p e below _ s₁ (mkF m 0 #[.val (.int (256 : Int32)), .val (.int (0 : Int32))] [])
  refine own_st (fun t_ k_ => XS.iloadN X0.here hx rfl (hb hby d12_0) rfl k_) ?_
  show own_Go p e below _ s₁ (mkF m 1 #[.val (.int (256 : Int32)), .val (.int (0 : Int32))] [(.int (256 : Int32))])
  refine own_st (fun t_ k_ => XS.iloadN X0.here hx rfl (hb hby d12_1) rfl k_) ?_
  show own_Go p e below _ s₁ (mkF m 2 #[.val (.int (256 : Int32)), .val (.int (0 : Int32))] [(.int (0 : Int32)), (.int (256 : Int32))])
  refine own_st (fun t_ k_ => XS.icmpYes X0.here hx rfl (pc0 := 2) (pc' := 9) rfl (hb hby d12_2) rfl (by decide) (by decide) (by decide) k_) ?_
  show own_Go p e below _ s₁ (mkF m 9 #[.val (.int (256 : Int32)), .val (.int (0 : Int32))] [])
  refine own_st (fun t_ k_ => XS.iloadN X0.here hx rfl (hb hby d12_9) rfl k_) ?_
  show own_Go p e below _ s₁ (mkF m 10 #[.val (.int (256 : Int32)), .val (.int (0 : Int32))] [(.int (0 : Int32))])
  refine own_retI X0 hx hlk Bd.returns (hb hby d12_10) ?_ (by decide) (by decide)
  show QR (.int (0 : Int32)) h0 n0 _ s₁.heap _
  rw [e0]
  exact ⟨rfl, N0, rfl⟩
theorem ef_rmMI1 (m : MethodId) (x0 : Int32) (x1 : Int32) : entryFrame m #[(.int x0), (.int x1)] 2 = mkF m 0 #[.val (.int x0), .val (.int x1)] [] := by first | (simp [entryFrame, mkF, argsToLocals, Value.category]; done) | rfl
set_option maxRecDepth 65536 in
set_option maxHeartbeats 40000000 in
theorem rmMI1 (l : Launch) (Z : State) (a0 : Array Value) (hw : ∀ d ∈ tables_1, d.before a0 Z = true) (ws : List Jvm.Cond)  (h0 : Heap) (n0 : Nat) (Z0 : n0 ≤ h0.size) :
    MetFree l (⟨"java/lang/Math", "min", "(II)I"⟩ : MethodName) (head1 (Jvm.Cond.code (⟨"java/lang/Math", "min", "(II)I"⟩ : MethodName) jdk_29_method_69_code 2 (some .int) :: ws) ({ frames := 0, cells := 0, slots := 0, locals := 0 } : Room)) (fun a_ U_ => a_ = #[(.int (256 : Int32)), (.int (1 : Int32))] ∧ Z.Warmed39 U_.vm ∧ U_.heap = h0) (fun _ _ _ _ _ => True) (fun _ U_ o_ U'_ => ∃ v_ L_, o_ = .returned v_ ∧ QR (.int (1 : Int32)) h0 n0 v_ U'_.heap L_ ∧ FrameEnd U_ o_ U'_ L_ ({ frames := 0, cells := 0, slots := 0, locals := 0 } : Room).cells ({ frames := 0, cells := 0, slots := 0, locals := 0 } : Room).slots) := by
  refine MetFree.of_bodySF (Jvm.Free.JP.mathPlain rfl (by decide +kernel)) hisR ?_
  intro p e s m args below meth c s₁ Bd hml0 hP hK
  obtain ⟨rfl, hZ, hh⟩ := hP
  have hx := Bd.exec
  have hby := Bd.bytes
  have hml : c.maxLocals = 2 := hml0
  have hown : s.vm.findClass "java/lang/Math" = some m.cls := findClass_of_methodNamed Bd.named
  have hnm := (name_of_methodNamed Bd.named Bd.method).1
  have hlk := BodyLoose.notSynchronized Bd
  have X0 : Stand p l e ({ frames := 0, cells := 0, slots := 0, locals := 0 } : Room) s m #[(.int (256 : Int32)), (.int (1 : Int32))] below meth c s₁ [] 0 0 := Stand.of_body Bd
  have e0 : s₁.heap = h0 := by rw [← hh, Bd.state]; rfl
  have N0 := Fr.nil n0
  refine own_entry (P := own_End s (QR (.int (1 : Int32)) h0 n0) ({ frames := 0, cells := 0, slots := 0, locals := 0 } : Room).cells ({ frames := 0, cells := 0, slots := 0, locals := 0 } : Room).slots) (ef_rmMI1 m (256 : Int32) (1 : Int32)) ?_
  show own_Go p e below _ s₁ (mkF m 0 #[.val (.int (256 : Int32)), .val (.int (1 : Int32))] [])
  refine own_st (fun t_ k_ => XS.iloadN X0.here hx rfl (hb hby d12_0) rfl k_) ?_
  show own_Go p e below _ s₁ (mkF m 1 #[.val (.int (256 : Int32)), .val (.int (1 : Int32))] [(.int (256 : Int32))])
  refine own_st (fun t_ k_ => XS.iloadN X0.here hx rfl (hb hby d12_1) rfl k_) ?_
  show own_Go p e below _ s₁ (mkF m 2 #[.val (.int (256 : Int32)), .val (.int (1 : Int32))] [(.int (1 : Int32)), (.int (256 : Int32))])
  refine own_st (fun t_ k_ => XS.icmpYes X0.here hx rfl (pc0 := 2) (pc' := 9) rfl (hb hby d12_2) rfl (by decide) (by decide) (by decide) k_) ?_
  show own_Go p e below _ s₁ (mkF m 9 #[.val (.int (256 : Int32)), .val (.int (1 : Int32))] [])
  refine own_st (fun t_ k_ => XS.iloadN X0.here hx rfl (hb hby d12_9) rfl k_) ?_
  show own_Go p e below _ s₁ (mkF m 10 #[.val (.int (256 : Int32)), .val (.int (1 : Int32))] [(.int (1 : Int32))])
  refine own_retI X0 hx hlk Bd.returns (hb hby d12_10) ?_ (by decide) (by decide)
  show QR (.int (1 : Int32)) h0 n0 _ s₁.heap _
  rw [e0]
  exact ⟨rfl, N0, rfl⟩
theorem ef_rmMI2 (m : MethodId) (x0 : Int32) (x1 : Int32) : entryFrame m #[(.int x0), (.int x1)] 2 = mkF m 0 #[.val (.int x0), .val (.int x1)] [] := by first | (simp [entryFrame, mkF, argsToLocals, Value.category]; done) | rfl
set_option maxRecDepth 65536 in
set_option maxHeartbeats 40000000 in
theorem rmMI2 (l : Launch) (Z : State) (a0 : Array Value) (hw : ∀ d ∈ tables_1, d.before a0 Z = true) (ws : List Jvm.Cond)  (h0 : Heap) (n0 : Nat) (Z0 : n0 ≤ h0.size) :
    MetFree l (⟨"java/lang/Math", "min", "(II)I"⟩ : MethodName) (head1 (Jvm.Cond.code (⟨"java/lang/Math", "min", "(II)I"⟩ : MethodName) jdk_29_method_69_code 2 (some .int) :: ws) ({ frames := 0, cells := 0, slots := 0, locals := 0 } : Room)) (fun a_ U_ => a_ = #[(.int (256 : Int32)), (.int (2 : Int32))] ∧ Z.Warmed39 U_.vm ∧ U_.heap = h0) (fun _ _ _ _ _ => True) (fun _ U_ o_ U'_ => ∃ v_ L_, o_ = .returned v_ ∧ QR (.int (2 : Int32)) h0 n0 v_ U'_.heap L_ ∧ FrameEnd U_ o_ U'_ L_ ({ frames := 0, cells := 0, slots := 0, locals := 0 } : Room).cells ({ frames := 0, cells := 0, slots := 0, locals := 0 } : Room).slots) := by
  refine MetFree.of_bodySF (Jvm.Free.JP.mathPlain rfl (by decide +kernel)) hisR ?_
  intro p e s m args below meth c s₁ Bd hml0 hP hK
  obtain ⟨rfl, hZ, hh⟩ := hP
  have hx := Bd.exec
  have hby := Bd.bytes
  have hml : c.maxLocals = 2 := hml0
  have hown : s.vm.findClass "java/lang/Math" = some m.cls := findClass_of_methodNamed Bd.named
  have hnm := (name_of_methodNamed Bd.named Bd.method).1
  have hlk := BodyLoose.notSynchronized Bd
  have X0 : Stand p l e ({ frames := 0, cells := 0, slots := 0, locals := 0 } : Room) s m #[(.int (256 : Int32)), (.int (2 : Int32))] below meth c s₁ [] 0 0 := Stand.of_body Bd
  have e0 : s₁.heap = h0 := by rw [← hh, Bd.state]; rfl
  have N0 := Fr.nil n0
  refine own_entry (P := own_End s (QR (.int (2 : Int32)) h0 n0) ({ frames := 0, cells := 0, slots := 0, locals := 0 } : Room).cells ({ frames := 0, cells := 0, slots := 0, locals := 0 } : Room).slots) (ef_rmMI2 m (256 : Int32) (2 : Int32)) ?_
  show own_Go p e below _ s₁ (mkF m 0 #[.val (.int (256 : Int32)), .val (.int (2 : Int32))] [])
  refine own_st (fun t_ k_ => XS.iloadN X0.here hx rfl (hb hby d12_0) rfl k_) ?_
  show own_Go p e below _ s₁ (mkF m 1 #[.val (.int (256 : Int32)), .val (.int (2 : Int32))] [(.int (256 : Int32))])
  refine own_st (fun t_ k_ => XS.iloadN X0.here hx rfl (hb hby d12_1) rfl k_) ?_
  show own_Go p e below _ s₁ (mkF m 2 #[.val (.int (256 : Int32)), .val (.int (2 : Int32))] [(.int (2 : Int32)), (.int (256 : Int32))])
  refine own_st (fun t_ k_ => XS.icmpYes X0.here hx rfl (pc0 := 2) (pc' := 9) rfl (hb hby d12_2) rfl (by decide) (by decide) (by decide) k_) ?_
  show own_Go p e below _ s₁ (mkF m 9 #[.val (.int (256 : Int32)), .val (.int (2 : Int32))] [])
  refine own_st (fun t_ k_ => XS.iloadN X0.here hx rfl (hb hby d12_9) rfl k_) ?_
  show own_Go p e below _ s₁ (mkF m 10 #[.val (.int (256 : Int32)), .val (.int (2 : Int32))] [(.int (2 : Int32))])
  refine own_retI X0 hx hlk Bd.returns (hb hby d12_10) ?_ (by decide) (by decide)
  show QR (.int (2 : Int32)) h0 n0 _ s₁.heap _
  rw [e0]
  exact ⟨rfl, N0, rfl⟩
theorem ef_rmMI3 (m : MethodId) (x0 : Int32) (x1 : Int32) : entryFrame m #[(.int x0), (.int x1)] 2 = mkF m 0 #[.val (.int x0), .val (.int x1)] [] := by first | (simp [entryFrame, mkF, argsToLocals, Value.category]; done) | rfl
set_option maxRecDepth 65536 in
set_option maxHeartbeats 40000000 in
theorem rmMI3 (l : Launch) (Z : State) (a0 : Array Value) (hw : ∀ d ∈ tables_1, d.before a0 Z = true) (ws : List Jvm.Cond)  (h0 : Heap) (n0 : Nat) (Z0 : n0 ≤ h0.size) :
    MetFree l (⟨"java/lang/Math", "min", "(II)I"⟩ : MethodName) (head1 (Jvm.Cond.code (⟨"java/lang/Math", "min", "(II)I"⟩ : MethodName) jdk_29_method_69_code 2 (some .int) :: ws) ({ frames := 0, cells := 0, slots := 0, locals := 0 } : Room)) (fun a_ U_ => a_ = #[(.int (256 : Int32)), (.int (3 : Int32))] ∧ Z.Warmed39 U_.vm ∧ U_.heap = h0) (fun _ _ _ _ _ => True) (fun _ U_ o_ U'_ => ∃ v_ L_, o_ = .returned v_ ∧ QR (.int (3 : Int32)) h0 n0 v_ U'_.heap L_ ∧ FrameEnd U_ o_ U'_ L_ ({ frames := 0, cells := 0, slots := 0, locals := 0 } : Room).cells ({ frames := 0, cells := 0, slots := 0, locals := 0 } : Room).slots) := by
  refine MetFree.of_bodySF (Jvm.Free.JP.mathPlain rfl (by decide +kernel)) hisR ?_
  intro p e s m args below meth c s₁ Bd hml0 hP hK
  obtain ⟨rfl, hZ, hh⟩ := hP
  have hx := Bd.exec
  have hby := Bd.bytes
  have hml : c.maxLocals = 2 := hml0
  have hown : s.vm.findClass "java/lang/Math" = some m.cls := findClass_of_methodNamed Bd.named
  have hnm := (name_of_methodNamed Bd.named Bd.method).1
  have hlk := BodyLoose.notSynchronized Bd
  have X0 : Stand p l e ({ frames := 0, cells := 0, slots := 0, locals := 0 } : Room) s m #[(.int (256 : Int32)), (.int (3 : Int32))] below meth c s₁ [] 0 0 := Stand.of_body Bd
  have e0 : s₁.heap = h0 := by rw [← hh, Bd.state]; rfl
  have N0 := Fr.nil n0
  refine own_entry (P := own_End s (QR (.int (3 : Int32)) h0 n0) ({ frames := 0, cells := 0, slots := 0, locals := 0 } : Room).cells ({ frames := 0, cells := 0, slots := 0, locals := 0 } : Room).slots) (ef_rmMI3 m (256 : Int32) (3 : Int32)) ?_
  show own_Go p e below _ s₁ (mkF m 0 #[.val (.int (256 : Int32)), .val (.int (3 : Int32))] [])
  refine own_st (fun t_ k_ => XS.iloadN X0.here hx rfl (hb hby d12_0) rfl k_) ?_
  show own_Go p e below _ s₁ (mkF m 1 #[.val (.int (256 : Int32)), .val (.int (3 : Int32))] [(.int (256 : Int32))])
  refine own_st (fun t_ k_ => XS.iloadN X0.here hx rfl (hb hby d12_1) rfl k_) ?_
  show own_Go p e below _ s₁ (mkF m 2 #[.val (.int (256 : Int32)), .val (.int (3 : Int32))] [(.int (3 : Int32)), (.int (256 : Int32))])
  refine own_st (fun t_ k_ => XS.icmpYes X0.here hx rfl (pc0 := 2) (pc' := 9) rfl (hb hby d12_2) rfl (by decide) (by decide) (by decide) k_) ?_
  show own_Go p e below _ s₁ (mkF m 9 #[.val (.int (256 : Int32)), .val (.int (3 : Int32))] [])
  refine own_st (fun t_ k_ => XS.iloadN X0.here hx rfl (hb hby d12_9) rfl k_) ?_
  show own_Go p e below _ s₁ (mkF m 10 #[.val (.int (256 : Int32)), .val (.int (3 : Int32))] [(.int (3 : Int32))])
  refine own_retI X0 hx hlk Bd.returns (hb hby d12_10) ?_ (by decide) (by decide)
  show QR (.int (3 : Int32)) h0 n0 _ s₁.heap _
  rw [e0]
  exact ⟨rfl, N0, rfl⟩
def QCY_long (Z : State) (n : Int32) (vs : List Value) (h0 : Heap) (n0 : Nat) (v : Option Value) (h : Heap) (L : List Loc) : Prop := ∃ (x : Addr) (k : ClassId), v = some (.ref x) ∧ Fr n0 L ∧ Keep h0 h [] ∧ h0.size ≤ x ∧ n0 ≤ x ∧ Arv Z h x k .long n vs (.long (0 : Int64))
theorem d13_0 : decode jdk_65_method_124_code 0 = .ok (.iload_n 1, 1) := by decide +kernel
theorem d13_1 : decode jdk_65_method_124_code 1 = .ok (.aload_n 0, 1) := by decide +kernel
theorem d13_2 : decode jdk_65_method_124_code 2 = .ok (.arraylength, 1) := by decide +kernel
theorem d13_3 : decode jdk_65_method_124_code 3 = .ok (.if_icmp .ne 11, 3) := by decide +kernel
theorem d13_14 : decode jdk_65_method_124_code 14 = .ok (.iload_n 1, 1) := by decide +kernel
theorem d13_15 : decode jdk_65_method_124_code 15 = .ok (.newarray .long, 2) := by decide +kernel
theorem d13_17 : decode jdk_65_method_124_code 17 = .ok (.astore_n 2, 1) := by decide +kernel
theorem d13_18 : decode jdk_65_method_124_code 18 = .ok (.aload_n 0, 1) := by decide +kernel
theorem d13_19 : decode jdk_65_method_124_code 19 = .ok (.iconst 0, 1) := by decide +kernel
theorem d13_20 : decode jdk_65_method_124_code 20 = .ok (.aload_n 2, 1) := by decide +kernel
theorem d13_21 : decode jdk_65_method_124_code 21 = .ok (.iconst 0, 1) := by decide +kernel
theorem d13_22 : decode jdk_65_method_124_code 22 = .ok (.aload_n 0, 1) := by decide +kernel
theorem d13_23 : decode jdk_65_method_124_code 23 = .ok (.arraylength, 1) := by decide +kernel
theorem d13_24 : decode jdk_65_method_124_code 24 = .ok (.iload_n 1, 1) := by decide +kernel
theorem d13_25 : decode jdk_65_method_124_code 25 = .ok (.invokestatic 304, 3) := by decide +kernel
theorem pd_7 : parseMethodDescriptor "(II)I" = some ⟨[.int, .int], some .int⟩ := by decide +kernel
theorem d13_28 : decode jdk_65_method_124_code 28 = .ok (.invokestatic 150, 3) := by decide +kernel
theorem d13_31 : decode jdk_65_method_124_code 31 = .ok (.aload_n 2, 1) := by decide +kernel
theorem d13_32 : decode jdk_65_method_124_code 32 = .ok (.areturn, 1) := by decide +kernel
theorem pn_4 : plainName "java/util/Arrays" = true := by first | (simp [plainName, overriddenIn]; done) | decide +kernel
theorem ef_rmCYl0 (m : MethodId) (x0 : Addr) (x1 : Int32) : entryFrame m #[(.ref x0), (.int x1)] 3 = mkF m 0 #[.val (.ref x0), .val (.int x1), .unset] [] := by first | (simp [entryFrame, mkF, argsToLocals, Value.category]; done) | rfl
set_option maxRecDepth 65536 in
set_option maxHeartbeats 40000000 in
theorem rmCYl0 (l : Launch) (Z : State) (a0 : Array Value) (hw : ∀ d ∈ tables_1, d.before a0 Z = true) (ws : List Jvm.Cond) (t : Addr) (kt : ClassId) (j0 j1 j2 : Int64) (h0 : Heap) (n0 : Nat) (Z0 : n0 ≤ h0.size) (At : Arv Z h0 t kt .long (256 : Int32) [(.long j0), (.long j1), (.long j2)] (.long (0 : Int64))) :
    MetFree l (⟨"java/util/Arrays", "copyOf", "([JI)[J"⟩ : MethodName) (head1 (Jvm.Cond.code (⟨"java/util/Arrays", "copyOf", "([JI)[J"⟩ : MethodName) jdk_65_method_124_code 3 (some (.array .long)) :: ws) ({ frames := 1, cells := 1, slots := 0, locals := 40 } : Room)) (fun a_ U_ => a_ = #[(.ref t), (.int (0 : Int32))] ∧ Z.Warmed39 U_.vm ∧ U_.heap = h0) (fun _ _ _ _ _ => True) (fun _ U_ o_ U'_ => ∃ v_ L_, o_ = .returned v_ ∧ QCY_long Z (0 : Int32) [] h0 n0 v_ U'_.heap L_ ∧ FrameEnd U_ o_ U'_ L_ ({ frames := 1, cells := 1, slots := 0, locals := 40 } : Room).cells ({ frames := 1, cells := 1, slots := 0, locals := 40 } : Room).slots) := by
  refine MetFree.of_bodySF (plainFor_of_name pn_4) hisR ?_
  intro p e s m args below meth c s₁ Bd hml0 hP hK
  obtain ⟨rfl, hZ, hh⟩ := hP
  have hx := Bd.exec
  have hby := Bd.bytes
  have hml : c.maxLocals = 3 := hml0
  have hown : s.vm.findClass "java/util/Arrays" = some m.cls := findClass_of_methodNamed Bd.named
  have hnm := (name_of_methodNamed Bd.named Bd.method).1
  have hlk := BodyLoose.notSynchronized Bd
  have X0 : Stand p l e ({ frames := 1, cells := 1, slots := 0, locals := 40 } : Room) s m #[(.ref t), (.int (0 : Int32))] below meth c s₁ [] 0 0 := Stand.of_body Bd
  have e0 : s₁.heap = h0 := by rw [← hh, Bd.state]; rfl
  have N0 := Fr.nil n0
  refine own_entry (P := own_End s (QCY_long Z (0 : Int32) [] h0 n0) ({ frames := 1, cells := 1, slots := 0, locals := 40 } : Room).cells ({ frames := 1, cells := 1, slots := 0, locals := 40 } : Room).slots) (ef_rmCYl0 m t (0 : Int32)) ?_
  show own_Go p e below _ s₁ (mkF m 0 #[.val (.ref t), .val (.int (0 : Int32)), .unset] [])
  refine own_st (fun t_ k_ => XS.iloadN X0.here hx rfl (hb hby d13_0) rfl k_) ?_
  show own_Go p e below _ s₁ (mkF m 1 #[.val (.ref t), .val (.int (0 : Int32)), .unset] [(.int (0 : Int32))])
  refine own_st (fun t_ k_ => XS.aloadN X0.here hx rfl (hb hby d13_1) rfl rfl k_) ?_
  show own_Go p e below _ s₁ (mkF m 2 #[.val (.ref t), .val (.int (0 : Int32)), .unset] [(.ref t), (.int (0 : Int32))])
  obtain ⟨cl1, Ar1, -, S1, N1', -, -⟩ := id At
  refine own_st (fun t_ k_ => X0.arraylength hx (by rw [e0]; exact Ar1.1) (State.isArrayOf_alike hZ.alike Ar1.2.1) (g := (mkF m 2 #[.val (.ref t), .val (.int (0 : Int32)), .unset] [(.ref t), (.int (0 : Int32))])) rfl rfl (hb hby d13_2) t_ k_) ?_
  rw [len_of S1 N1']
  show own_Go p e below _ s₁ (mkF m 3 #[.val (.ref t), .val (.int (0 : Int32)), .unset] [(.int (256 : Int32)), (.int (0 : Int32))])
  refine own_st (fun t_ k_ => XS.icmpYes X0.here hx rfl (pc0 := 3) (pc' := 14) rfl (hb hby d13_3) rfl (by decide) (by decide) (by decide) k_) ?_
  show own_Go p e below _ s₁ (mkF m 14 #[.val (.ref t), .val (.int (0 : Int32)), .unset] [])
  refine own_st (fun t_ k_ => XS.iloadN X0.here hx rfl (hb hby d13_14) rfl k_) ?_
  show own_Go p e below _ s₁ (mkF m 15 #[.val (.ref t), .val (.int (0 : Int32)), .unset] [(.int (0 : Int32))])
  obtain ⟨T2, h2, k2, X2, e2, E2, A2, st2⟩ := newP X0 hx hZ (hw _ (List.mem_of_getElem? (i := 75) rfl)) e0 (g := (mkF m 15 #[.val (.ref t), .val (.int (0 : Int32)), .unset] [(.int (0 : Int32))])) rfl (hb hby d13_15) rfl (by decide) (cap := 0) (by decide) (by decide) (by decide) (by decide)
  obtain ⟨nb2, g2⟩ : ∃ z, z = h0.size := ⟨_, rfl⟩
  rw [← g2] at A2 st2
  refine own_st st2 ?_
  have g_nb2 : n0 ≤ nb2 := Nat.le_trans (Nat.le_trans Z0 (Keep.refl h0 []).1) (Nat.le_of_eq g2.symm)
  have K2 : Keep h0 h2 [] := (Keep.refl h0 []).ext E2
  have sz_nb2 : h0.size ≤ nb2 := Nat.le_trans (Keep.refl h0 []).1 (Nat.le_of_eq g2.symm)
  have V2 : Arv Z h2 nb2 k2 .long (0 : Int32) [] (.long (0 : Int64)) := (Arv.new A2 (by decide)).pad (pad_rep [] (.long (0 : Int64)) 0)
  show own_Go p e below _ T2 (mkF m 17 #[.val (.ref t), .val (.int (0 : Int32)), .unset] [(.ref nb2)])
  refine own_st (fun t_ k_ => XS.astoreN X2.here hx rfl (hb hby d13_17) rfl rfl (l' := #[.val (.ref t), .val (.int (0 : Int32)), .val (.ref nb2)]) rfl k_) ?_
  show own_Go p e below _ T2 (mkF m 18 #[.val (.ref t), .val (.int (0 : Int32)), .val (.ref nb2)] [])
  refine own_st (fun t_ k_ => XS.aloadN X2.here hx rfl (hb hby d13_18) rfl rfl k_) ?_
  show own_Go p e below _ T2 (mkF m 19 #[.val (.ref t), .val (.int (0 : Int32)), .val (.ref nb2)] [(.ref t)])
  refine own_st (fun t_ k_ => XS.iconst X2.here hx rfl (hb hby d13_19) k_) ?_
  show own_Go p e below _ T2 (mkF m 20 #[.val (.ref t), .val (.int (0 : Int32)), .val (.ref nb2)] [(.int (0 : Int32)), (.ref t)])
  refine own_st (fun t_ k_ => XS.aloadN X2.here hx rfl (hb hby d13_20) rfl rfl k_) ?_
  show own_Go p e below _ T2 (mkF m 21 #[.val (.ref t), .val (.int (0 : Int32)), .val (.ref nb2)] [(.ref nb2), (.int (0 : Int32)), (.ref t)])
  refine own_st (fun t_ k_ => XS.iconst X2.here hx rfl (hb hby d13_21) k_) ?_
  show own_Go p e below _ T2 (mkF m 22 #[.val (.ref t), .val (.int (0 : Int32)), .val (.ref nb2)] [(.int (0 : Int32)), (.ref nb2), (.int (0 : Int32)), (.ref t)])
  refine own_st (fun t_ k_ => XS.aloadN X2.here hx rfl (hb hby d13_22) rfl rfl k_) ?_
  show own_Go p e below _ T2 (mkF m 23 #[.val (.ref t), .val (.int (0 : Int32)), .val (.ref nb2)] [(.ref t), (.int (0 : Int32)), (.ref nb2), (.int (0 : Int32)), (.ref t)])
  have f4 := (At.ext E2)
  obtain ⟨cl3, Ar3, -, S3, N3', -, -⟩ := id f4
  refine own_st (fun t_ k_ => X2.arraylength hx (by rw [e2]; exact Ar3.1) (State.isArrayOf_alike hZ.alike Ar3.2.1) (g := (mkF m 23 #[.val (.ref t), .val (.int (0 : Int32)), .val (.ref nb2)] [(.ref t), (.int (0 : Int32)), (.ref nb2), (.int (0 : Int32)), (.ref t)])) rfl rfl (hb hby d13_23) t_ k_) ?_
  rw [len_of S3 N3']
  show own_Go p e below _ T2 (mkF m 24 #[.val (.ref t), .val (.int (0 : Int32)), .val (.ref nb2)] [(.int (256 : Int32)), (.int (0 : Int32)), (.ref nb2), (.int (0 : Int32)), (.ref t)])
  refine own_st (fun t_ k_ => XS.iloadN X2.here hx rfl (hb hby d13_24) rfl k_) ?_
  show own_Go p e below _ T2 (mkF m 25 #[.val (.ref t), .val (.int (0 : Int32)), .val (.ref nb2)] [(.int (0 : Int32)), (.int (256 : Int32)), (.int (0 : Int32)), (.ref nb2), (.int (0 : Int32)), (.ref t)])
  refine own_callS X2 hx (y := (⟨"java/lang/Math", "min", "(II)I"⟩ : MethodName)) hown (mvT hZ (hw _ (List.mem_of_getElem? (i := 95) rfl))) (mvT hZ (hw _ (List.mem_of_getElem? (i := 96) rfl))) (mvT hZ (hw _ (List.mem_of_getElem? (i := 97) rfl))) (mvT hZ (hw _ (List.mem_of_getElem? (i := 98) rfl))) (by decide) (backOf (W := 4) (rmMI0 l Z a0 hw [] h2 n0 (Nat.le_trans Z0 K2.1)) hZ (hw _ (List.mem_of_getElem? (i := 98) rfl)) (hw _ (List.mem_of_getElem? (i := 97) rfl)) (by decide) (by decide)) (g := (mkF m 25 #[.val (.ref t), .val (.int (0 : Int32)), .val (.ref nb2)] [(.int (0 : Int32)), (.int (256 : Int32)), (.int (0 : Int32)), (.ref nb2), (.int (0 : Int32)), (.ref t)])) rfl (by rw [hml]; rfl) (argsL := [(.int (256 : Int32)), (.int (0 : Int32))]) (rest := [(.int (0 : Int32)), (.ref nb2), (.int (0 : Int32)), (.ref t)]) (lenOf pd_7 rfl) rfl (by show 2 * 0 + _ ≤ _; exact Nat.le_of_eq rfl) (hb hby d13_25) rfl e2 (by decide) (by decide) ?_
  rintro v5 T5 L5 X5 ⟨rfl, Nq5, hh5⟩
  have N5 := Fr.app N0 Nq5
  show own_Go p e below _ T5 (mkF m 28 #[.val (.ref t), .val (.int (0 : Int32)), .val (.ref nb2)] [(.int (0 : Int32)), (.int (0 : Int32)), (.ref nb2), (.int (0 : Int32)), (.ref t)])
  obtain ⟨T6, h6, L6, X6, e6, N6, Kq6, A6, st6⟩ := cpA X5 hx hZ hown (hw _ (List.mem_of_getElem? (i := 99) rfl)) (hw _ (List.mem_of_getElem? (i := 102) rfl)) (hw _ (List.mem_of_getElem? (i := 100) rfl)) (hw _ (List.mem_of_getElem? (i := 101) rfl)) hh5 f4 V2 (us := []) (sp := (0 : Int32)) (dp := (0 : Int32)) (nn := (0 : Int32)) (Or.inl ⟨rfl, rfl⟩) (by decide) (by decide) (by decide) (by decide) (by decide) rfl (Nat.le_of_ble_eq_true rfl) N5 g_nb2 (g := (mkF m 28 #[.val (.ref t), .val (.int (0 : Int32)), .val (.ref nb2)] [(.int (0 : Int32)), (.int (0 : Int32)), (.ref nb2), (.int (0 : Int32)), (.ref t)])) rfl (by rw [hml]; rfl) rfl (hb hby d13_28) (by decide) (W := 0) (by show 2 * 0 + _ ≤ _; exact Nat.le_of_eq rfl) (by decide)
  refine own_st st6 ?_
  have K6 : Keep h0 h6 [] := K2.trans Kq6 (allS (Or.inr sz_nb2) all0)
  have V6 : Arv Z h6 nb2 k2 .long (0 : Int32) [] (.long (0 : Int64)) := A6
  show own_Go p e below _ T6 (mkF m 31 #[.val (.ref t), .val (.int (0 : Int32)), .val (.ref nb2)] [])
  refine own_st (fun t_ k_ => XS.aloadN X6.here hx rfl (hb hby d13_31) rfl rfl k_) ?_
  show own_Go p e below _ T6 (mkF m 32 #[.val (.ref t), .val (.int (0 : Int32)), .val (.ref nb2)] [(.ref nb2)])
  refine own_retA X6 hx hlk Bd.returns rfl rfl (hb hby d13_32) ?_ (by decide) (by decide)
  show QCY_long Z (0 : Int32) [] h0 n0 _ T6.heap _
  rw [e6]
  exact ⟨nb2, _, rfl, N6, K6, sz_nb2, g_nb2, V6⟩
theorem ef_rmCYl1 (m : MethodId) (x0 : Addr) (x1 : Int32) : entryFrame m #[(.ref x0), (.int x1)] 3 = mkF m 0 #[.val (.ref x0), .val (.int x1), .unset] [] := by first | (simp [entryFrame, mkF, argsToLocals, Value.category]; done) | rfl
set_option maxRecDepth 65536 in
set_option maxHeartbeats 40000000 in
theorem rmCYl1 (l : Launch) (Z : State) (a0 : Array Value) (hw : ∀ d ∈ tables_1, d.before a0 Z = true) (ws : List Jvm.Cond) (t : Addr) (kt : ClassId) (j0 j1 j2 : Int64) (h0 : Heap) (n0 : Nat) (Z0 : n0 ≤ h0.size) (At : Arv Z h0 t kt .long (256 : Int32) [(.long j0), (.long j1), (.long j2)] (.long (0 : Int64))) :
    MetFree l (⟨"java/util/Arrays", "copyOf", "([JI)[J"⟩ : MethodName) (head1 (Jvm.Cond.code (⟨"java/util/Arrays", "copyOf", "([JI)[J"⟩ : MethodName) jdk_65_method_124_code 3 (some (.array .long)) :: ws) ({ frames := 1, cells := 1, slots := 1, locals := 40 } : Room)) (fun a_ U_ => a_ = #[(.ref t), (.int (1 : Int32))] ∧ Z.Warmed39 U_.vm ∧ U_.heap = h0) (fun _ _ _ _ _ => True) (fun _ U_ o_ U'_ => ∃ v_ L_, o_ = .returned v_ ∧ QCY_long Z (1 : Int32) [(.long j0)] h0 n0 v_ U'_.heap L_ ∧ FrameEnd U_ o_ U'_ L_ ({ frames := 1, cells := 1, slots := 1, locals := 40 } : Room).cells ({ frames := 1, cells := 1, slots := 1, locals := 40 } : Room).slots) := by
  refine MetFree.of_bodySF (plainFor_of_name pn_4) hisR ?_
  intro p e s m args below meth c s₁ Bd hml0 hP hK
  obtain ⟨rfl, hZ, hh⟩ := hP
  have hx := Bd.exec
  have hby := Bd.bytes
  have hml : c.maxLocals = 3 := hml0
  have hown : s.vm.findClass "java/util/Arrays" = some m.cls := findClass_of_methodNamed Bd.named
  have hnm := (name_of_methodNamed Bd.named Bd.method).1
  have hlk := BodyLoose.notSynchronized Bd
  have X0 : Stand p l e ({ frames := 1, cells := 1, slots := 1, locals := 40 } : Room) s m #[(.ref t), (.int (1 : Int32))] below meth c s₁ [] 0 0 := Stand.of_body Bd
  have e0 : s₁.heap = h0 := by rw [← hh, Bd.state]; rfl
  have N0 := Fr.nil n0
  refine own_entry (P := own_End s (QCY_long Z (1 : Int32) [(.long j0)] h0 n0) ({ frames := 1, cells := 1, slots := 1, locals := 40 } : Room).cells ({ frames := 1, cells := 1, slots := 1, locals := 40 } : Room).slots) (ef_rmCYl1 m t (1 : Int32)) ?_
  show own_Go p e below _ s₁ (mkF m 0 #[.val (.ref t), .val (.int (1 : Int32)), .unset] [])
  refine own_st (fun t_ k_ => XS.iloadN X0.here hx rfl (hb hby d13_0) rfl k_) ?_
  show own_Go p e below _ s₁ (mkF m 1 #[.val (.ref t), .val (.int (1 : Int32)), .unset] [(.int (1 : Int32))])
  refine own_st (fun t_ k_ => XS.aloadN X0.here hx rfl (hb hby d13_1) rfl rfl k_) ?_
  show own_Go p e below _ s₁ (mkF m 2 #[.val (.ref t), .val (.int (1 : Int32)), .unset] [(.ref t), (.int (1 : Int32))])
  obtain ⟨cl1, Ar1, -, S1, N1', -, -⟩ := id At
  refine own_st (fun t_ k_ => X0.arraylength hx (by rw [e0]; exact Ar1.1) (State.isArrayOf_alike hZ.alike Ar1.2.1) (g := (mkF m 2 #[.val (.ref t), .val (.int (1 : Int32)), .unset] [(.ref t), (.int (1 : Int32))])) rfl rfl (hb hby d13_2) t_ k_) ?_
  rw [len_of S1 N1']
  show own_Go p e below _ s₁ (mkF m 3 #[.val (.ref t), .val (.int (1 : Int32)), .unset] [(.int (256 : Int32)), (.int (1 : Int32))])
  refine own_st (fun t_ k_ => XS.icmpYes X0.here hx rfl (pc0 := 3) (pc' := 14) rfl (hb hby d13_3) rfl (by decide) (by decide) (by decide) k_) ?_
  show own_Go p e below _ s₁ (mkF m 14 #[.val (.ref t), .val (.int (1 : Int32)), .unset] [])
  refine own_st (fun t_ k_ => XS.iloadN X0.here hx rfl (hb hby d13_14) rfl k_) ?_
  show own_Go p e below _ s₁ (mkF m 15 #[.val (.ref t), .val (.int (1 : Int32)), .unset] [(.int (1 : Int32))])
  obtain ⟨T2, h2, k2, X2, e2, E2, A2, st2⟩ := newP X0 hx hZ (hw _ (List.mem_of_getElem? (i := 75) rfl)) e0 (g := (mkF m 15 #[.val (.ref t), .val (.int (1 : Int32)), .unset] [(.int (1 : Int32))])) rfl (hb hby d13_15) rfl (by decide) (cap := 1) (by decide) (by decide) (by decide) (by decide)
  obtain ⟨nb2, g2⟩ : ∃ z, z = h0.size := ⟨_, rfl⟩
  rw [← g2] at A2 st2
  refine own_st st2 ?_
  have g_nb2 : n0 ≤ nb2 := Nat.le_trans (Nat.le_trans Z0 (Keep.refl h0 []).1) (Nat.le_of_eq g2.symm)
  have K2 : Keep h0 h2 [] := (Keep.refl h0 []).ext E2
  have sz_nb2 : h0.size ≤ nb2 := Nat.le_trans (Keep.refl h0 []).1 (Nat.le_of_eq g2.symm)
  have V2 : Arv Z h2 nb2 k2 .long (1 : Int32) [(.long (0 : Int64))] (.long (0 : Int64)) := (Arv.new A2 (by decide)).pad (pad_rep [] (.long (0 : Int64)) 1)
  show own_Go p e below _ T2 (mkF m 17 #[.val (.ref t), .val (.int (1 : Int32)), .unset] [(.ref nb2)])
  refine own_st (fun t_ k_ => XS.astoreN X2.here hx rfl (hb hby d13_17) rfl rfl (l' := #[.val (.ref t), .val (.int (1 : Int32)), .val (.ref nb2)]) rfl k_) ?_
  show own_Go p e below _ T2 (mkF m 18 #[.val (.ref t), .val (.int (1 : Int32)), .val (.ref nb2)] [])
  refine own_st (fun t_ k_ => XS.aloadN X2.here hx rfl (hb hby d13_18) rfl rfl k_) ?_
  show own_Go p e below _ T2 (mkF m 19 #[.val (.ref t), .val (.int (1 : Int32)), .val (.ref nb2)] [(.ref t)])
  refine own_st (fun t_ k_ => XS.iconst X2.here hx rfl (hb hby d13_19) k_) ?_
  show own_Go p e below _ T2 (mkF m 20 #[.val (.ref t), .val (.int (1 : Int32)), .val (.ref nb2)] [(.int (0 : Int32)), (.ref t)])
  refine own_st (fun t_ k_ => XS.aloadN X2.here hx rfl (hb hby d13_20) rfl rfl k_) ?_
  show own_Go p e below _ T2 (mkF m 21 #[.val (.ref t), .val (.int (1 : Int32)), .val (.ref nb2)] [(.ref nb2), (.int (0 : Int32)), (.ref t)])
  refine own_st (fun t_ k_ => XS.iconst X2.here hx rfl (hb hby d13_21) k_) ?_
  show own_Go p e below _ T2 (mkF m 22 #[.val (.ref t), .val (.int (1 : Int32)), .val (.ref nb2)] [(.int (0 : Int32)), (.ref nb2), (.int (0 : Int32)), (.ref t)])
  refine own_st (fun t_ k_ => XS.aloadN X2.here hx rfl (hb hby d13_22) rfl rfl k_) ?_
  show own_Go p e below _ T2 (mkF m 23 #[.val (.ref t), .val (.int (1 : Int32)), .val (.ref nb2)] [(.ref t), (.int (0 : Int32)), (.ref nb2), (.int (0 : Int32)), (.ref t)])
  have f4 := (At.ext E2)
  obtain ⟨cl3, Ar3, -, S3, N3', -, -⟩ := id f4
  refine own_st (fun t_ k_ => X2.arraylength hx (by rw [e2]; exact Ar3.1) (State.isArrayOf_alike hZ.alike Ar3.2.1) (g := (mkF m 23 #[.val (.ref t), .val (.int (1 : Int32)), .val (.ref nb2)] [(.ref t), (.int (0 : Int32)), (.ref nb2), (.int (0 : Int32)), (.ref t)])) rfl rfl (hb hby d13_23) t_ k_) ?_
  rw [len_of S3 N3']
  show own_Go p e below _ T2 (mkF m 24 #[.val (.ref t), .val (.int (1 : Int32)), .val (.ref nb2)] [(.int (256 : Int32)), (.int (0 : Int32)), (.ref nb2), (.int (0 : Int32)), (.ref t)])
  refine own_st (fun t_ k_ => XS.iloadN X2.here hx rfl (hb hby d13_24) rfl k_) ?_
  show own_Go p e below _ T2 (mkF m 25 #[.val (.ref t), .val (.int (1 : Int32)), .val (.ref nb2)] [(.int (1 : Int32)), (.int (256 : Int32)), (.int (0 : Int32)), (.ref nb2), (.int (0 : Int32)), (.ref t)])
  refine own_callS X2 hx (y := (⟨"java/lang/Math", "min", "(II)I"⟩ : MethodName)) hown (mvT hZ (hw _ (List.mem_of_getElem? (i := 95) rfl))) (mvT hZ (hw _ (List.mem_of_getElem? (i := 96) rfl))) (mvT hZ (hw _ (List.mem_of_getElem? (i := 97) rfl))) (mvT hZ (hw _ (List.mem_of_getElem? (i := 98) rfl))) (by decide) (backOf (W := 4) (rmMI1 l Z a0 hw [] h2 n0 (Nat.le_trans Z0 K2.1)) hZ (hw _ (List.mem_of_getElem? (i := 98) rfl)) (hw _ (List.mem_of_getElem? (i := 97) rfl)) (by decide) (by decide)) (g := (mkF m 25 #[.val (.ref t), .val (.int (1 : Int32)), .val (.ref nb2)] [(.int (1 : Int32)), (.int (256 : Int32)), (.int (0 : Int32)), (.ref nb2), (.int (0 : Int32)), (.ref t)])) rfl (by rw [hml]; rfl) (argsL := [(.int (256 : Int32)), (.int (1 : Int32))]) (rest := [(.int (0 : Int32)), (.ref nb2), (.int (0 : Int32)), (.ref t)]) (lenOf pd_7 rfl) rfl (by show 2 * 0 + _ ≤ _; exact Nat.le_of_eq rfl) (hb hby d13_25) rfl e2 (by decide) (by decide) ?_
  rintro v5 T5 L5 X5 ⟨rfl, Nq5, hh5⟩
  have N5 := Fr.app N0 Nq5
  show own_Go p e below _ T5 (mkF m 28 #[.val (.ref t), .val (.int (1 : Int32)), .val (.ref nb2)] [(.int (1 : Int32)), (.int (0 : Int32)), (.ref nb2), (.int (0 : Int32)), (.ref t)])
  obtain ⟨T6, h6, L6, X6, e6, N6, Kq6, A6, st6⟩ := cpA X5 hx hZ hown (hw _ (List.mem_of_getElem? (i := 99) rfl)) (hw _ (List.mem_of_getElem? (i := 102) rfl)) (hw _ (List.mem_of_getElem? (i := 100) rfl)) (hw _ (List.mem_of_getElem? (i := 101) rfl)) hh5 f4 V2 (us := [(.long j0)]) (sp := (0 : Int32)) (dp := (0 : Int32)) (nn := (1 : Int32)) (Or.inl ⟨rfl, rfl⟩) (by decide) (by decide) (by decide) (by decide) (by decide) rfl (Nat.le_of_ble_eq_true rfl) N5 g_nb2 (g := (mkF m 28 #[.val (.ref t), .val (.int (1 : Int32)), .val (.ref nb2)] [(.int (1 : Int32)), (.int (0 : Int32)), (.ref nb2), (.int (0 : Int32)), (.ref t)])) rfl (by rw [hml]; rfl) rfl (hb hby d13_28) (by decide) (W := 0) (by show 2 * 0 + _ ≤ _; exact Nat.le_of_eq rfl) (by decide)
  refine own_st st6 ?_
  have K6 : Keep h0 h6 [] := K2.trans Kq6 (allS (Or.inr sz_nb2) all0)
  have V6 : Arv Z h6 nb2 k2 .long (1 : Int32) [(.long j0)] (.long (0 : Int64)) := A6
  show own_Go p e below _ T6 (mkF m 31 #[.val (.ref t), .val (.int (1 : Int32)), .val (.ref nb2)] [])
  refine own_st (fun t_ k_ => XS.aloadN X6.here hx rfl (hb hby d13_31) rfl rfl k_) ?_
  show own_Go p e below _ T6 (mkF m 32 #[.val (.ref t), .val (.int (1 : Int32)), .val (.ref nb2)] [(.ref nb2)])
  refine own_retA X6 hx hlk Bd.returns rfl rfl (hb hby d13_32) ?_ (by decide) (by decide)
  show QCY_long Z (1 : Int32) [(.long j0)] h0 n0 _ T6.heap _
  rw [e6]
  exact ⟨nb2, _, rfl, N6, K6, sz_nb2, g_nb2, V6⟩
theorem ef_rmCYl2 (m : MethodId) (x0 : Addr) (x1 : Int32) : entryFrame m #[(.ref x0), (.int x1)] 3 = mkF m 0 #[.val (.ref x0), .val (.int x1), .unset] [] := by first | (simp [entryFrame, mkF, argsToLocals, Value.category]; done) | rfl
set_option maxRecDepth 65536 in
set_option maxHeartbeats 40000000 in
theorem rmCYl2 (l : Launch) (Z : State) (a0 : Array Value) (hw : ∀ d ∈ tables_1, d.before a0 Z = true) (ws : List Jvm.Cond) (t : Addr) (kt : ClassId) (j0 j1 j2 : Int64) (h0 : Heap) (n0 : Nat) (Z0 : n0 ≤ h0.size) (At : Arv Z h0 t kt .long (256 : Int32) [(.long j0), (.long j1), (.long j2)] (.long (0 : Int64))) :
    MetFree l (⟨"java/util/Arrays", "copyOf", "([JI)[J"⟩ : MethodName) (head1 (Jvm.Cond.code (⟨"java/util/Arrays", "copyOf", "([JI)[J"⟩ : MethodName) jdk_65_method_124_code 3 (some (.array .long)) :: ws) ({ frames := 1, cells := 1, slots := 2, locals := 40 } : Room)) (fun a_ U_ => a_ = #[(.ref t), (.int (2 : Int32))] ∧ Z.Warmed39 U_.vm ∧ U_.heap = h0) (fun _ _ _ _ _ => True) (fun _ U_ o_ U'_ => ∃ v_ L_, o_ = .returned v_ ∧ QCY_long Z (2 : Int32) [(.long j0), (.long j1)] h0 n0 v_ U'_.heap L_ ∧ FrameEnd U_ o_ U'_ L_ ({ frames := 1, cells := 1, slots := 2, locals := 40 } : Room).cells ({ frames := 1, cells := 1, slots := 2, locals := 40 } : Room).slots) := by
  refine MetFree.of_bodySF (plainFor_of_name pn_4) hisR ?_
  intro p e s m args below meth c s₁ Bd hml0 hP hK
  obtain ⟨rfl, hZ, hh⟩ := hP
  have hx := Bd.exec
  have hby := Bd.bytes
  have hml : c.maxLocals = 3 := hml0
  have hown : s.vm.findClass "java/util/Arrays" = some m.cls := findClass_of_methodNamed Bd.named
  have hnm := (name_of_methodNamed Bd.named Bd.method).1
  have hlk := BodyLoose.notSynchronized Bd
  have X0 : Stand p l e ({ frames := 1, cells := 1, slots := 2, locals := 40 } : Room) s m #[(.ref t), (.int (2 : Int32))] below meth c s₁ [] 0 0 := Stand.of_body Bd
  have e0 : s₁.heap = h0 := by rw [← hh, Bd.state]; rfl
  have N0 := Fr.nil n0
  refine own_entry (P := own_End s (QCY_long Z (2 : Int32) [(.long j0), (.long j1)] h0 n0) ({ frames := 1, cells := 1, slots := 2, locals := 40 } : Room).cells ({ frames := 1, cells := 1, slots := 2, locals := 40 } : Room).slots) (ef_rmCYl2 m t (2 : Int32)) ?_
  show own_Go p e below _ s₁ (mkF m 0 #[.val (.ref t), .val (.int (2 : Int32)), .unset] [])
  refine own_st (fun t_ k_ => XS.iloadN X0.here hx rfl (hb hby d13_0) rfl k_) ?_
  show own_Go p e below _ s₁ (mkF m 1 #[.val (.ref t), .val (.int (2 : Int32)), .unset] [(.int (2 : Int32))])
  refine own_st (fun t_ k_ => XS.aloadN X0.here hx rfl (hb hby d13_1) rfl rfl k_) ?_
  show own_Go p e below _ s₁ (mkF m 2 #[.val (.ref t), .val (.int (2 : Int32)), .unset] [(.ref t), (.int (2 : Int32))])
  obtain ⟨cl1, Ar1, -, S1, N1', -, -⟩ := id At
  refine own_st (fun t_ k_ => X0.arraylength hx (by rw [e0]; exact Ar1.1) (State.isArrayOf_alike hZ.alike Ar1.2.1) (g := (mkF m 2 #[.val (.ref t), .val (.int (2 : Int32)), .unset] [(.ref t), (.int (2 : Int32))])) rfl rfl (hb hby d13_2) t_ k_) ?_
  rw [len_of S1 N1']
  show own_Go p e below _ s₁ (mkF m 3 #[.val (.ref t), .val (.int (2 : Int32)), .unset] [(.int (256 : Int32)), (.int (2 : Int32))])
  refine own_st (fun t_ k_ => XS.icmpYes X0.here hx rfl (pc0 := 3) (pc' := 14) rfl (hb hby d13_3) rfl (by decide) (by decide) (by decide) k_) ?_
  show own_Go p e below _ s₁ (mkF m 14 #[.val (.ref t), .val (.int (2 : Int32)), .unset] [])
  refine own_st (fun t_ k_ => XS.iloadN X0.here hx rfl (hb hby d13_14) rfl k_) ?_
  show own_Go p e below _ s₁ (mkF m 15 #[.val (.ref t), .val (.int (2 : Int32)), .unset] [(.int (2 : Int32))])
  obtain ⟨T2, h2, k2, X2, e2, E2, A2, st2⟩ := newP X0 hx hZ (hw _ (List.mem_of_getElem? (i := 75) rfl)) e0 (g := (mkF m 15 #[.val (.ref t), .val (.int (2 : Int32)), .unset] [(.int (2 : Int32))])) rfl (hb hby d13_15) rfl (by decide) (cap := 2) (by decide) (by decide) (by decide) (by decide)
  obtain ⟨nb2, g2⟩ : ∃ z, z = h0.size := ⟨_, rfl⟩
  rw [← g2] at A2 st2
  refine own_st st2 ?_
  have g_nb2 : n0 ≤ nb2 := Nat.le_trans (Nat.le_trans Z0 (Keep.refl h0 []).1) (Nat.le_of_eq g2.symm)
  have K2 : Keep h0 h2 [] := (Keep.refl h0 []).ext E2
  have sz_nb2 : h0.size ≤ nb2 := Nat.le_trans (Keep.refl h0 []).1 (Nat.le_of_eq g2.symm)
  have V2 : Arv Z h2 nb2 k2 .long (2 : Int32) [(.long (0 : Int64)), (.long (0 : Int64))] (.long (0 : Int64)) := (Arv.new A2 (by decide)).pad (pad_rep [] (.long (0 : Int64)) 2)
  show own_Go p e below _ T2 (mkF m 17 #[.val (.ref t), .val (.int (2 : Int32)), .unset] [(.ref nb2)])
  refine own_st (fun t_ k_ => XS.astoreN X2.here hx rfl (hb hby d13_17) rfl rfl (l' := #[.val (.ref t), .val (.int (2 : Int32)), .val (.ref nb2)]) rfl k_) ?_
  show own_Go p e below _ T2 (mkF m 18 #[.val (.ref t), .val (.int (2 : Int32)), .val (.ref nb2)] [])
  refine own_st (fun t_ k_ => XS.aloadN X2.here hx rfl (hb hby d13_18) rfl rfl k_) ?_
  show own_Go p e below _ T2 (mkF m 19 #[.val (.ref t), .val (.int (2 : Int32)), .val (.ref nb2)] [(.ref t)])
  refine own_st (fun t_ k_ => XS.iconst X2.here hx rfl (hb hby d13_19) k_) ?_
  show own_Go p e below _ T2 (mkF m 20 #[.val (.ref t), .val (.int (2 : Int32)), .val (.ref nb2)] [(.int (0 : Int32)), (.ref t)])
  refine own_st (fun t_ k_ => XS.aloadN X2.here hx rfl (hb hby d13_20) rfl rfl k_) ?_
  show own_Go p e below _ T2 (mkF m 21 #[.val (.ref t), .val (.int (2 : Int32)), .val (.ref nb2)] [(.ref nb2), (.int (0 : Int32)), (.ref t)])
  refine own_st (fun t_ k_ => XS.iconst X2.here hx rfl (hb hby d13_21) k_) ?_
  show own_Go p e below _ T2 (mkF m 22 #[.val (.ref t), .val (.int (2 : Int32)), .val (.ref nb2)] [(.int (0 : Int32)), (.ref nb2), (.int (0 : Int32)), (.ref t)])
  refine own_st (fun t_ k_ => XS.aloadN X2.here hx rfl (hb hby d13_22) rfl rfl k_) ?_
  show own_Go p e below _ T2 (mkF m 23 #[.val (.ref t), .val (.int (2 : Int32)), .val (.ref nb2)] [(.ref t), (.int (0 : Int32)), (.ref nb2), (.int (0 : Int32)), (.ref t)])
  have f4 := (At.ext E2)
  obtain ⟨cl3, Ar3, -, S3, N3', -, -⟩ := id f4
  refine own_st (fun t_ k_ => X2.arraylength hx (by rw [e2]; exact Ar3.1) (State.isArrayOf_alike hZ.alike Ar3.2.1) (g := (mkF m 23 #[.val (.ref t), .val (.int (2 : Int32)), .val (.ref nb2)] [(.ref t), (.int (0 : Int32)), (.ref nb2), (.int (0 : Int32)), (.ref t)])) rfl rfl (hb hby d13_23) t_ k_) ?_
  rw [len_of S3 N3']
  show own_Go p e below _ T2 (mkF m 24 #[.val (.ref t), .val (.int (2 : Int32)), .val (.ref nb2)] [(.int (256 : Int32)), (.int (0 : Int32)), (.ref nb2), (.int (0 : Int32)), (.ref t)])
  refine own_st (fun t_ k_ => XS.iloadN X2.here hx rfl (hb hby d13_24) rfl k_) ?_
  show own_Go p e below _ T2 (mkF m 25 #[.val (.ref t), .val (.int (2 : Int32)), .val (.ref nb2)] [(.int (2 : Int32)), (.int (256 : Int32)), (.int (0 : Int32)), (.ref nb2), (.int (0 : Int32)), (.ref t)])
  refine own_callS X2 hx (y := (⟨"java/lang/Math", "min", "(II)I"⟩ : MethodName)) hown (mvT hZ (hw _ (List.mem_of_getElem? (i := 95) rfl))) (mvT hZ (hw _ (List.mem_of_getElem? (i := 96) rfl))) (mvT hZ (hw _ (List.mem_of_getElem? (i := 97) rfl))) (mvT hZ (hw _ (List.mem_of_getElem? (i := 98) rfl))) (by decide) (backOf (W := 4) (rmMI2 l Z a0 hw [] h2 n0 (Nat.le_trans Z0 K2.1)) hZ (hw _ (List.mem_of_getElem? (i := 98) rfl)) (hw _ (List.mem_of_getElem? (i := 97) rfl)) (by decide) (by decide)) (g := (mkF m 25 #[.val (.ref t), .val (.int (2 : Int32)), .val (.ref nb2)] [(.int (2 : Int32)), (.int (256 : Int32)), (.int (0 : Int32)), (.ref nb2), (.int (0 : Int32)), (.ref t)])) rfl (by rw [hml]; rfl) (argsL := [(.int (256 : Int32)), (.int (2 : Int32))]) (rest := [(.int (0 : Int32)), (.ref nb2), (.int (0 : Int32)), (.ref t)]) (lenOf pd_7 rfl) rfl (by show 2 * 0 + _ ≤ _; exact Nat.le_of_eq rfl) (hb hby d13_25) rfl e2 (by decide) (by decide) ?_
  rintro v5 T5 L5 X5 ⟨rfl, Nq5, hh5⟩
  have N5 := Fr.app N0 Nq5
  show own_Go p e below _ T5 (mkF m 28 #[.val (.ref t), .val (.int (2 : Int32)), .val (.ref nb2)] [(.int (2 : Int32)), (.int (0 : Int32)), (.ref nb2), (.int (0 : Int32)), (.ref t)])
  obtain ⟨T6, h6, L6, X6, e6, N6, Kq6, A6, st6⟩ := cpA X5 hx hZ hown (hw _ (List.mem_of_getElem? (i := 99) rfl)) (hw _ (List.mem_of_getElem? (i := 102) rfl)) (hw _ (List.mem_of_getElem? (i := 100) rfl)) (hw _ (List.mem_of_getElem? (i := 101) rfl)) hh5 f4 V2 (us := [(.long j0), (.long j1)]) (sp := (0 : Int32)) (dp := (0 : Int32)) (nn := (2 : Int32)) (Or.inl ⟨rfl, rfl⟩) (by decide) (by decide) (by decide) (by decide) (by decide) rfl (Nat.le_of_ble_eq_true rfl) N5 g_nb2 (g := (mkF m 28 #[.val (.ref t), .val (.int (2 : Int32)), .val (.ref nb2)] [(.int (2 : Int32)), (.int (0 : Int32)), (.ref nb2), (.int (0 : Int32)), (.ref t)])) rfl (by rw [hml]; rfl) rfl (hb hby d13_28) (by decide) (W := 0) (by show 2 * 0 + _ ≤ _; exact Nat.le_of_eq rfl) (by decide)
  refine own_st st6 ?_
  have K6 : Keep h0 h6 [] := K2.trans Kq6 (allS (Or.inr sz_nb2) all0)
  have V6 : Arv Z h6 nb2 k2 .long (2 : Int32) [(.long j0), (.long j1)] (.long (0 : Int64)) := A6
  show own_Go p e below _ T6 (mkF m 31 #[.val (.ref t), .val (.int (2 : Int32)), .val (.ref nb2)] [])
  refine own_st (fun t_ k_ => XS.aloadN X6.here hx rfl (hb hby d13_31) rfl rfl k_) ?_
  show own_Go p e below _ T6 (mkF m 32 #[.val (.ref t), .val (.int (2 : Int32)), .val (.ref nb2)] [(.ref nb2)])
  refine own_retA X6 hx hlk Bd.returns rfl rfl (hb hby d13_32) ?_ (by decide) (by decide)
  show QCY_long Z (2 : Int32) [(.long j0), (.long j1)] h0 n0 _ T6.heap _
  rw [e6]
  exact ⟨nb2, _, rfl, N6, K6, sz_nb2, g_nb2, V6⟩
theorem ef_rmCYl3 (m : MethodId) (x0 : Addr) (x1 : Int32) : entryFrame m #[(.ref x0), (.int x1)] 3 = mkF m 0 #[.val (.ref x0), .val (.int x1), .unset] [] := by first | (simp [entryFrame, mkF, argsToLocals, Value.category]; done) | rfl
set_option maxRecDepth 65536 in
set_option maxHeartbeats 40000000 in
theorem rmCYl3 (l : Launch) (Z : State) (a0 : Array Value) (hw : ∀ d ∈ tables_1, d.before a0 Z = true) (ws : List Jvm.Cond) (t : Addr) (kt : ClassId) (j0 j1 j2 : Int64) (h0 : Heap) (n0 : Nat) (Z0 : n0 ≤ h0.size) (At : Arv Z h0 t kt .long (256 : Int32) [(.long j0), (.long j1), (.long j2)] (.long (0 : Int64))) :
    MetFree l (⟨"java/util/Arrays", "copyOf", "([JI)[J"⟩ : MethodName) (head1 (Jvm.Cond.code (⟨"java/util/Arrays", "copyOf", "([JI)[J"⟩ : MethodName) jdk_65_method_124_code 3 (some (.array .long)) :: ws) ({ frames := 1, cells := 1, slots := 3, locals := 40 } : Room)) (fun a_ U_ => a_ = #[(.ref t), (.int (3 : Int32))] ∧ Z.Warmed39 U_.vm ∧ U_.heap = h0) (fun _ _ _ _ _ => True) (fun _ U_ o_ U'_ => ∃ v_ L_, o_ = .returned v_ ∧ QCY_long Z (3 : Int32) [(.long j0), (.long j1), (.long j2)] h0 n0 v_ U'_.heap L_ ∧ FrameEnd U_ o_ U'_ L_ ({ frames := 1, cells := 1, slots := 3, locals := 40 } : Room).cells ({ frames := 1, cells := 1, slots := 3, locals := 40 } : Room).slots) := by
  refine MetFree.of_bodySF (plainFor_of_name pn_4) hisR ?_
  intro p e s m args below meth c s₁ Bd hml0 hP hK
  obtain ⟨rfl, hZ, hh⟩ := hP
  have hx := Bd.exec
  have hby := Bd.bytes
  have hml : c.maxLocals = 3 := hml0
  have hown : s.vm.findClass "java/util/Arrays" = some m.cls := findClass_of_methodNamed Bd.named
  have hnm := (name_of_methodNamed Bd.named Bd.method).1
  have hlk := BodyLoose.notSynchronized Bd
  have X0 : Stand p l e ({ frames := 1, cells := 1, slots := 3, locals := 40 } : Room) s m #[(.ref t), (.int (3 : Int32))] below meth c s₁ [] 0 0 := Stand.of_body Bd
  have e0 : s₁.heap = h0 := by rw [← hh, Bd.state]; rfl
  have N0 := Fr.nil n0
  refine own_entry (P := own_End s (QCY_long Z (3 : Int32) [(.long j0), (.long j1), (.long j2)] h0 n0) ({ frames := 1, cells := 1, slots := 3, locals := 40 } : Room).cells ({ frames := 1, cells := 1, slots := 3, locals := 40 } : Room).slots) (ef_rmCYl3 m t (3 : Int32)) ?_
  show own_Go p e below _ s₁ (mkF m 0 #[.val (.ref t), .val (.int (3 : Int32)), .unset] [])
  refine own_st (fun t_ k_ => XS.iloadN X0.here hx rfl (hb hby d13_0) rfl k_) ?_
  show own_Go p e below _ s₁ (mkF m 1 #[.val (.ref t), .val (.int (3 : Int32)), .unset] [(.int (3 : Int32))])
  refine own_st (fun t_ k_ => XS.aloadN X0.here hx rfl (hb hby d13_1) rfl rfl k_) ?_
  show own_Go p e below _ s₁ (mkF m 2 #[.val (.ref t), .val (.int (3 : Int32)), .unset] [(.ref t), (.int (3 : Int32))])
  obtain ⟨cl1, Ar1, -, S1, N1', -, -⟩ := id At
  refine own_st (fun t_ k_ => X0.arraylength hx (by rw [e0]; exact Ar1.1) (State.isArrayOf_alike hZ.alike Ar1.2.1) (g := (mkF m 2 #[.val (.ref t), .val (.int (3 : Int32)), .unset] [(.ref t), (.int (3 : Int32))])) rfl rfl (hb hby d13_2) t_ k_) ?_
  rw [len_of S1 N1']
  show own_Go p e below _ s₁ (mkF m 3 #[.val (.ref t), .val (.int (3 : Int32)), .unset] [(.int (256 : Int32)), (.int (3 : Int32))])
  refine own_st (fun t_ k_ => XS.icmpYes X0.here hx rfl (pc0 := 3) (pc' := 14) rfl (hb hby d13_3) rfl (by decide) (by decide) (by decide) k_) ?_
  show own_Go p e below _ s₁ (mkF m 14 #[.val (.ref t), .val (.int (3 : Int32)), .unset] [])
  refine own_st (fun t_ k_ => XS.iloadN X0.here hx rfl (hb hby d13_14) rfl k_) ?_
  show own_Go p e below _ s₁ (mkF m 15 #[.val (.ref t), .val (.int (3 : Int32)), .unset] [(.int (3 : Int32))])
  obtain ⟨T2, h2, k2, X2, e2, E2, A2, st2⟩ := newP X0 hx hZ (hw _ (List.mem_of_getElem? (i := 75) rfl)) e0 (g := (mkF m 15 #[.val (.ref t), .val (.int (3 : Int32)), .unset] [(.int (3 : Int32))])) rfl (hb hby d13_15) rfl (by decide) (cap := 3) (by decide) (by decide) (by decide) (by decide)
  obtain ⟨nb2, g2⟩ : ∃ z, z = h0.size := ⟨_, rfl⟩
  rw [← g2] at A2 st2
  refine own_st st2 ?_
  have g_nb2 : n0 ≤ nb2 := Nat.le_trans (Nat.le_trans Z0 (Keep.refl h0 []).1) (Nat.le_of_eq g2.symm)
  have K2 : Keep h0 h2 [] := (Keep.refl h0 []).ext E2
  have sz_nb2 : h0.size ≤ nb2 := Nat.le_trans (Keep.refl h0 []).1 (Nat.le_of_eq g2.symm)
  have V2 : Arv Z h2 nb2 k2 .long (3 : Int32) [(.long (0 : Int64)), (.long (0 : Int64)), (.long (0 : Int64))] (.long (0 : Int64)) := (Arv.new A2 (by decide)).pad (pad_rep [] (.long (0 : Int64)) 3)
  show own_Go p e below _ T2 (mkF m 17 #[.val (.ref t), .val (.int (3 : Int32)), .unset] [(.ref nb2)])
  refine own_st (fun t_ k_ => XS.astoreN X2.here hx rfl (hb hby d13_17) rfl rfl (l' := #[.val (.ref t), .val (.int (3 : Int32)), .val (.ref nb2)]) rfl k_) ?_
  show own_Go p e below _ T2 (mkF m 18 #[.val (.ref t), .val (.int (3 : Int32)), .val (.ref nb2)] [])
  refine own_st (fun t_ k_ => XS.aloadN X2.here hx rfl (hb hby d13_18) rfl rfl k_) ?_
  show own_Go p e below _ T2 (mkF m 19 #[.val (.ref t), .val (.int (3 : Int32)), .val (.ref nb2)] [(.ref t)])
  refine own_st (fun t_ k_ => XS.iconst X2.here hx rfl (hb hby d13_19) k_) ?_
  show own_Go p e below _ T2 (mkF m 20 #[.val (.ref t), .val (.int (3 : Int32)), .val (.ref nb2)] [(.int (0 : Int32)), (.ref t)])
  refine own_st (fun t_ k_ => XS.aloadN X2.here hx rfl (hb hby d13_20) rfl rfl k_) ?_
  show own_Go p e below _ T2 (mkF m 21 #[.val (.ref t), .val (.int (3 : Int32)), .val (.ref nb2)] [(.ref nb2), (.int (0 : Int32)), (.ref t)])
  refine own_st (fun t_ k_ => XS.iconst X2.here hx rfl (hb hby d13_21) k_) ?_
  show own_Go p e below _ T2 (mkF m 22 #[.val (.ref t), .val (.int (3 : Int32)), .val (.ref nb2)] [(.int (0 : Int32)), (.ref nb2), (.int (0 : Int32)), (.ref t)])
  refine own_st (fun t_ k_ => XS.aloadN X2.here hx rfl (hb hby d13_22) rfl rfl k_) ?_
  show own_Go p e below _ T2 (mkF m 23 #[.val (.ref t), .val (.int (3 : Int32)), .val (.ref nb2)] [(.ref t), (.int (0 : Int32)), (.ref nb2), (.int (0 : Int32)), (.ref t)])
  have f4 := (At.ext E2)
  obtain ⟨cl3, Ar3, -, S3, N3', -, -⟩ := id f4
  refine own_st (fun t_ k_ => X2.arraylength hx (by rw [e2]; exact Ar3.1) (State.isArrayOf_alike hZ.alike Ar3.2.1) (g := (mkF m 23 #[.val (.ref t), .val (.int (3 : Int32)), .val (.ref nb2)] [(.ref t), (.int (0 : Int32)), (.ref nb2), (.int (0 : Int32)), (.ref t)])) rfl rfl (hb hby d13_23) t_ k_) ?_
  rw [len_of S3 N3']
  show own_Go p e below _ T2 (mkF m 24 #[.val (.ref t), .val (.int (3 : Int32)), .val (.ref nb2)] [(.int (256 : Int32)), (.int (0 : Int32)), (.ref nb2), (.int (0 : Int32)), (.ref t)])
  refine own_st (fun t_ k_ => XS.iloadN X2.here hx rfl (hb hby d13_24) rfl k_) ?_
  show own_Go p e below _ T2 (mkF m 25 #[.val (.ref t), .val (.int (3 : Int32)), .val (.ref nb2)] [(.int (3 : Int32)), (.int (256 : Int32)), (.int (0 : Int32)), (.ref nb2), (.int (0 : Int32)), (.ref t)])
  refine own_callS X2 hx (y := (⟨"java/lang/Math", "min", "(II)I"⟩ : MethodName)) hown (mvT hZ (hw _ (List.mem_of_getElem? (i := 95) rfl))) (mvT hZ (hw _ (List.mem_of_getElem? (i := 96) rfl))) (mvT hZ (hw _ (List.mem_of_getElem? (i := 97) rfl))) (mvT hZ (hw _ (List.mem_of_getElem? (i := 98) rfl))) (by decide) (backOf (W := 4) (rmMI3 l Z a0 hw [] h2 n0 (Nat.le_trans Z0 K2.1)) hZ (hw _ (List.mem_of_getElem? (i := 98) rfl)) (hw _ (List.mem_of_getElem? (i := 97) rfl)) (by decide) (by decide)) (g := (mkF m 25 #[.val (.ref t), .val (.int (3 : Int32)), .val (.ref nb2)] [(.int (3 : Int32)), (.int (256 : Int32)), (.int (0 : Int32)), (.ref nb2), (.int (0 : Int32)), (.ref t)])) rfl (by rw [hml]; rfl) (argsL := [(.int (256 : Int32)), (.int (3 : Int32))]) (rest := [(.int (0 : Int32)), (.ref nb2), (.int (0 : Int32)), (.ref t)]) (lenOf pd_7 rfl) rfl (by show 2 * 0 + _ ≤ _; exact Nat.le_of_eq rfl) (hb hby d13_25) rfl e2 (by decide) (by decide) ?_
  rintro v5 T5 L5 X5 ⟨rfl, Nq5, hh5⟩
  have N5 := Fr.app N0 Nq5
  show own_Go p e below _ T5 (mkF m 28 #[.val (.ref t), .val (.int (3 : Int32)), .val (.ref nb2)] [(.int (3 : Int32)), (.int (0 : Int32)), (.ref nb2), (.int (0 : Int32)), (.ref t)])
  obtain ⟨T6, h6, L6, X6, e6, N6, Kq6, A6, st6⟩ := cpA X5 hx hZ hown (hw _ (List.mem_of_getElem? (i := 99) rfl)) (hw _ (List.mem_of_getElem? (i := 102) rfl)) (hw _ (List.mem_of_getElem? (i := 100) rfl)) (hw _ (List.mem_of_getElem? (i := 101) rfl)) hh5 f4 V2 (us := [(.long j0), (.long j1), (.long j2)]) (sp := (0 : Int32)) (dp := (0 : Int32)) (nn := (3 : Int32)) (Or.inl ⟨rfl, rfl⟩) (by decide) (by decide) (by decide) (by decide) (by decide) rfl (Nat.le_of_ble_eq_true rfl) N5 g_nb2 (g := (mkF m 28 #[.val (.ref t), .val (.int (3 : Int32)), .val (.ref nb2)] [(.int (3 : Int32)), (.int (0 : Int32)), (.ref nb2), (.int (0 : Int32)), (.ref t)])) rfl (by rw [hml]; rfl) rfl (hb hby d13_28) (by decide) (W := 0) (by show 2 * 0 + _ ≤ _; exact Nat.le_of_eq rfl) (by decide)
  refine own_st st6 ?_
  have K6 : Keep h0 h6 [] := K2.trans Kq6 (allS (Or.inr sz_nb2) all0)
  have V6 : Arv Z h6 nb2 k2 .long (3 : Int32) [(.long j0), (.long j1), (.long j2)] (.long (0 : Int64)) := A6
  show own_Go p e below _ T6 (mkF m 31 #[.val (.ref t), .val (.int (3 : Int32)), .val (.ref nb2)] [])
  refine own_st (fun t_ k_ => XS.aloadN X6.here hx rfl (hb hby d13_31) rfl rfl k_) ?_
  show own_Go p e below _ T6 (mkF m 32 #[.val (.ref t), .val (.int (3 : Int32)), .val (.ref nb2)] [(.ref nb2)])
  refine own_retA X6 hx hlk Bd.returns rfl rfl (hb hby d13_32) ?_ (by decide) (by decide)
  show QCY_long Z (3 : Int32) [(.long j0), (.long j1), (.long j2)] h0 n0 _ T6.heap _
  rw [e6]
  exact ⟨nb2, _, rfl, N6, K6, sz_nb2, g_nb2, V6⟩
def QCY_double (Z : State) (n : Int32) (vs : List Value) (h0 : Heap) (n0 : Nat) (v : Option Value) (h : Heap) (L : List Loc) : Prop := ∃ (x : Addr) (k : ClassId), v = some (.ref x) ∧ Fr n0 L ∧ Keep h0 h [] ∧ h0.size ≤ x ∧ n0 ≤ x ∧ Arv Z h x k .double n vs (.double (0 : UInt64))
theorem d14_0 : decode jdk_65_method_127_code 0 = .ok (.iload_n 1, 1) := by decide +kernel
theorem d14_1 : decode jdk_65_method_127_code 1 = .ok (.aload_n 0, 1) := by decide +kernel
theorem d14_2 : decode jdk_65_method_127_code 2 = .ok (.arraylength, 1) := by decide +kernel
theorem d14_3 : decode jdk_65_method_127_code 3 = .ok (.if_icmp .ne 11, 3) := by decide +kernel
theorem d14_14 : decode jdk_65_method_127_code 14 = .ok (.iload_n 1, 1) := by decide +kernel
theorem d14_15 : decode jdk_65_method_127_code 15 = .ok (.newarray .double, 2) := by decide +kernel
theorem d14_17 : decode jdk_65_method_127_code 17 = .ok (.astore_n 2, 1) := by decide +kernel
theorem d14_18 : decode jdk_65_method_127_code 18 = .ok (.aload_n 0, 1) := by decide +kernel
theorem d14_19 : decode jdk_65_method_127_code 19 = .ok (.iconst 0, 1) := by decide +kernel
theorem d14_20 : decode jdk_65_method_127_code 20 = .ok (.aload_n 2, 1) := by decide +kernel
theorem d14_21 : decode jdk_65_method_127_code 21 = .ok (.iconst 0, 1) := by decide +kernel
theorem d14_22 : decode jdk_65_method_127_code 22 = .ok (.aload_n 0, 1) := by decide +kernel
theorem d14_23 : decode jdk_65_method_127_code 23 = .ok (.arraylength, 1) := by decide +kernel
theorem d14_24 : decode jdk_65_method_127_code 24 = .ok (.iload_n 1, 1) := by decide +kernel
theorem d14_25 : decode jdk_65_method_127_code 25 = .ok (.invokestatic 304, 3) := by decide +kernel
theorem d14_28 : decode jdk_65_method_127_code 28 = .ok (.invokestatic 150, 3) := by decide +kernel
theorem d14_31 : decode jdk_65_method_127_code 31 = .ok (.aload_n 2, 1) := by decide +kernel
theorem d14_32 : decode jdk_65_method_127_code 32 = .ok (.areturn, 1) := by decide +kernel
theorem ef_rmCYd0 (m : MethodId) (x0 : Addr) (x1 : Int32) : entryFrame m #[(.ref x0), (.int x1)] 3 = mkF m 0 #[.val (.ref x0), .val (.int x1), .unset] [] := by first | (simp [entryFrame, mkF, argsToLocals, Value.category]; done) | rfl
set_option maxRecDepth 65536 in
set_option maxHeartbeats 40000000 in
theorem rmCYd0 (l : Launch) (Z : State) (a0 : Array Value) (hw : ∀ d ∈ tables_1, d.before a0 Z = true) (ws : List Jvm.Cond) (t : Addr) (kt : ClassId) (x0_ x1_ x2_ : UInt64) (h0 : Heap) (n0 : Nat) (Z0 : n0 ≤ h0.size) (At : Arv Z h0 t kt .double (256 : Int32) [(.double x0_), (.double x1_), (.double x2_)] (.double (0 : UInt64))) :
    MetFree l (⟨"java/util/Arrays", "copyOf", "([DI)[D"⟩ : MethodName) (head1 (Jvm.Cond.code (⟨"java/util/Arrays", "copyOf", "([DI)[D"⟩ : MethodName) jdk_65_method_127_code 3 (some (.array .double)) :: ws) ({ frames := 1, cells := 1, slots := 0, locals := 40 } : Room)) (fun a_ U_ => a_ = #[(.ref t), (.int (0 : Int32))] ∧ Z.Warmed39 U_.vm ∧ U_.heap = h0) (fun _ _ _ _ _ => True) (fun _ U_ o_ U'_ => ∃ v_ L_, o_ = .returned v_ ∧ QCY_double Z (0 : Int32) [] h0 n0 v_ U'_.heap L_ ∧ FrameEnd U_ o_ U'_ L_ ({ frames := 1, cells := 1, slots := 0, locals := 40 } : Room).cells ({ frames := 1, cells := 1, slots := 0, locals := 40 } : Room).slots) := by
  refine MetFree.of_bodySF (plainFor_of_name pn_4) hisR ?_
  intro p e s m args below meth c s₁ Bd hml0 hP hK
  obtain ⟨rfl, hZ, hh⟩ := hP
  have hx := Bd.exec
  have hby := Bd.bytes
  have hml : c.maxLocals = 3 := hml0
  have hown : s.vm.findClass "java/util/Arrays" = some m.cls := findClass_of_methodNamed Bd.named
  have hnm := (name_of_methodNamed Bd.named Bd.method).1
  have hlk := BodyLoose.notSynchronized Bd
  have X0 : Stand p l e ({ frames := 1, cells := 1, slots := 0, locals := 40 } : Room) s m #[(.ref t), (.int (0 : Int32))] below meth c s₁ [] 0 0 := Stand.of_body Bd
  have e0 : s₁.heap = h0 := by rw [← hh, Bd.state]; rfl
  have N0 := Fr.nil n0
  refine own_entry (P := own_End s (QCY_double Z (0 : Int32) [] h0 n0) ({ frames := 1, cells := 1, slots := 0, locals := 40 } : Room).cells ({ frames := 1, cells := 1, slots := 0, locals := 40 } : Room).slots) (ef_rmCYd0 m t (0 : Int32)) ?_
  show own_Go p e below _ s₁ (mkF m 0 #[.val (.ref t), .val (.int (0 : Int32)), .unset] [])
  refine own_st (fun t_ k_ => XS.iloadN X0.here hx rfl (hb hby d14_0) rfl k_) ?_
  show own_Go p e below _ s₁ (mkF m 1 #[.val (.ref t), .val (.int (0 : Int32)), .unset] [(.int (0 : Int32))])
  refine own_st (fun t_ k_ => XS.aloadN X0.here hx rfl (hb hby d14_1) rfl rfl k_) ?_
  show own_Go p e below _ s₁ (mkF m 2 #[.val (.ref t), .val (.int (0 : Int32)), .unset] [(.ref t), (.int (0 : Int32))])
  obtain ⟨cl1, Ar1, -, S1, N1', -, -⟩ := id At
  refine own_st (fun t_ k_ => X0.arraylength hx (by rw [e0]; exact Ar1.1) (State.isArrayOf_alike hZ.alike Ar1.2.1) (g := (mkF m 2 #[.val (.ref t), .val (.int (0 : Int32)), .unset] [(.ref t), (.int (0 : Int32))])) rfl rfl (hb hby d14_2) t_ k_) ?_
  rw [len_of S1 N1']
  show own_Go p e below _ s₁ (mkF m 3 #[.val (.ref t), .val (.int (0 : Int32)), .unset] [(.int (256 : Int32)), (.int (0 : Int32))])
  refine own_st (fun t_ k_ => XS.icmpYes X0.here hx rfl (pc0 := 3) (pc' := 14) rfl (hb hby d14_3) rfl (by decide) (by decide) (by decide) k_) ?_
  show own_Go p e below _ s₁ (mkF m 14 #[.val (.ref t), .val (.int (0 : Int32)), .unset] [])
  refine own_st (fun t_ k_ => XS.iloadN X0.here hx rfl (hb hby d14_14) rfl k_) ?_
  show own_Go p e below _ s₁ (mkF m 15 #[.val (.ref t), .val (.int (0 : Int32)), .unset] [(.int (0 : Int32))])
  obtain ⟨T2, h2, k2, X2, e2, E2, A2, st2⟩ := newP X0 hx hZ (hw _ (List.mem_of_getElem? (i := 78) rfl)) e0 (g := (mkF m 15 #[.val (.ref t), .val (.int (0 : Int32)), .unset] [(.int (0 : Int32))])) rfl (hb hby d14_15) rfl (by decide) (cap := 0) (by decide) (by decide) (by decide) (by decide)
  obtain ⟨nb2, g2⟩ : ∃ z, z = h0.size := ⟨_, rfl⟩
  rw [← g2] at A2 st2
  refine own_st st2 ?_
  have g_nb2 : n0 ≤ nb2 := Nat.le_trans (Nat.le_trans Z0 (Keep.refl h0 []).1) (Nat.le_of_eq g2.symm)
  have K2 : Keep h0 h2 [] := (Keep.refl h0 []).ext E2
  have sz_nb2 : h0.size ≤ nb2 := Nat.le_trans (Keep.refl h0 []).1 (Nat.le_of_eq g2.symm)
  have V2 : Arv Z h2 nb2 k2 .double (0 : Int32) [] (.double (0 : UInt64)) := (Arv.new A2 (by decide)).pad (pad_rep [] (.double (0 : UInt64)) 0)
  show own_Go p e below _ T2 (mkF m 17 #[.val (.ref t), .val (.int (0 : Int32)), .unset] [(.ref nb2)])
  refine own_st (fun t_ k_ => XS.astoreN X2.here hx rfl (hb hby d14_17) rfl rfl (l' := #[.val (.ref t), .val (.int (0 : Int32)), .val (.ref nb2)]) rfl k_) ?_
  show own_Go p e below _ T2 (mkF m 18 #[.val (.ref t), .val (.int (0 : Int32)), .val (.ref nb2)] [])
  refine own_st (fun t_ k_ => XS.aloadN X2.here hx rfl (hb hby d14_18) rfl rfl k_) ?_
  show own_Go p e below _ T2 (mkF m 19 #[.val (.ref t), .val (.int (0 : Int32)), .val (.ref nb2)] [(.ref t)])
  refine own_st (fun t_ k_ => XS.iconst X2.here hx rfl (hb hby d14_19) k_) ?_
  show own_Go p e below _ T2 (mkF m 20 #[.val (.ref t), .val (.int (0 : Int32)), .val (.ref nb2)] [(.int (0 : Int32)), (.ref t)])
  refine own_st (fun t_ k_ => XS.aloadN X2.here hx rfl (hb hby d14_20) rfl rfl k_) ?_
  show own_Go p e below _ T2 (mkF m 21 #[.val (.ref t), .val (.int (0 : Int32)), .val (.ref nb2)] [(.ref nb2), (.int (0 : Int32)), (.ref t)])
  refine own_st (fun t_ k_ => XS.iconst X2.here hx rfl (hb hby d14_21) k_) ?_
  show own_Go p e below _ T2 (mkF m 22 #[.val (.ref t), .val (.int (0 : Int32)), .val (.ref nb2)] [(.int (0 : Int32)), (.ref nb2), (.int (0 : Int32)), (.ref t)])
  refine own_st (fun t_ k_ => XS.aloadN X2.here hx rfl (hb hby d14_22) rfl rfl k_) ?_
  show own_Go p e below _ T2 (mkF m 23 #[.val (.ref t), .val (.int (0 : Int32)), .val (.ref nb2)] [(.ref t), (.int (0 : Int32)), (.ref nb2), (.int (0 : Int32)), (.ref t)])
  have f4 := (At.ext E2)
  obtain ⟨cl3, Ar3, -, S3, N3', -, -⟩ := id f4
  refine own_st (fun t_ k_ => X2.arraylength hx (by rw [e2]; exact Ar3.1) (State.isArrayOf_alike hZ.alike Ar3.2.1) (g := (mkF m 23 #[.val (.ref t), .val (.int (0 : Int32)), .val (.ref nb2)] [(.ref t), (.int (0 : Int32)), (.ref nb2), (.int (0 : Int32)), (.ref t)])) rfl rfl (hb hby d14_23) t_ k_) ?_
  rw [len_of S3 N3']
  show own_Go p e below _ T2 (mkF m 24 #[.val (.ref t), .val (.int (0 : Int32)), .val (.ref nb2)] [(.int (256 : Int32)), (.int (0 : Int32)), (.ref nb2), (.int (0 : Int32)), (.ref t)])
  refine own_st (fun t_ k_ => XS.iloadN X2.here hx rfl (hb hby d14_24) rfl k_) ?_
  show own_Go p e below _ T2 (mkF m 25 #[.val (.ref t), .val (.int (0 : Int32)), .val (.ref nb2)] [(.int (0 : Int32)), (.int (256 : Int32)), (.int (0 : Int32)), (.ref nb2), (.int (0 : Int32)), (.ref t)])
  refine own_callS X2 hx (y := (⟨"java/lang/Math", "min", "(II)I"⟩ : MethodName)) hown (mvT hZ (hw _ (List.mem_of_getElem? (i := 95) rfl))) (mvT hZ (hw _ (List.mem_of_getElem? (i := 96) rfl))) (mvT hZ (hw _ (List.mem_of_getElem? (i := 97) rfl))) (mvT hZ (hw _ (List.mem_of_getElem? (i := 98) rfl))) (by decide) (backOf (W := 4) (rmMI0 l Z a0 hw [] h2 n0 (Nat.le_trans Z0 K2.1)) hZ (hw _ (List.mem_of_getElem? (i := 98) rfl)) (hw _ (List.mem_of_getElem? (i := 97) rfl)) (by decide) (by decide)) (g := (mkF m 25 #[.val (.ref t), .val (.int (0 : Int32)), .val (.ref nb2)] [(.int (0 : Int32)), (.int (256 : Int32)), (.int (0 : Int32)), (.ref nb2), (.int (0 : Int32)), (.ref t)])) rfl (by rw [hml]; rfl) (argsL := [(.int (256 : Int32)), (.int (0 : Int32))]) (rest := [(.int (0 : Int32)), (.ref nb2), (.int (0 : Int32)), (.ref t)]) (lenOf pd_7 rfl) rfl (by show 2 * 0 + _ ≤ _; exact Nat.le_of_eq rfl) (hb hby d14_25) rfl e2 (by decide) (by decide) ?_
  rintro v5 T5 L5 X5 ⟨rfl, Nq5, hh5⟩
  have N5 := Fr.app N0 Nq5
  show own_Go p e below _ T5 (mkF m 28 #[.val (.ref t), .val (.int (0 : Int32)), .val (.ref nb2)] [(.int (0 : Int32)), (.int (0 : Int32)), (.ref nb2), (.int (0 : Int32)), (.ref t)])
  obtain ⟨T6, h6, L6, X6, e6, N6, Kq6, A6, st6⟩ := cpA X5 hx hZ hown (hw _ (List.mem_of_getElem? (i := 99) rfl)) (hw _ (List.mem_of_getElem? (i := 102) rfl)) (hw _ (List.mem_of_getElem? (i := 100) rfl)) (hw _ (List.mem_of_getElem? (i := 101) rfl)) hh5 f4 V2 (us := []) (sp := (0 : Int32)) (dp := (0 : Int32)) (nn := (0 : Int32)) (Or.inl ⟨rfl, rfl⟩) (by decide) (by decide) (by decide) (by decide) (by decide) rfl (Nat.le_of_ble_eq_true rfl) N5 g_nb2 (g := (mkF m 28 #[.val (.ref t), .val (.int (0 : Int32)), .val (.ref nb2)] [(.int (0 : Int32)), (.int (0 : Int32)), (.ref nb2), (.int (0 : Int32)), (.ref t)])) rfl (by rw [hml]; rfl) rfl (hb hby d14_28) (by decide) (W := 0) (by show 2 * 0 + _ ≤ _; exact Nat.le_of_eq rfl) (by decide)
  refine own_st st6 ?_
  have K6 : Keep h0 h6 [] := K2.trans Kq6 (allS (Or.inr sz_nb2) all0)
  have V6 : Arv Z h6 nb2 k2 .double (0 : Int32) [] (.double (0 : UInt64)) := A6
  show own_Go p e below _ T6 (mkF m 31 #[.val (.ref t), .val (.int (0 : Int32)), .val (.ref nb2)] [])
  refine own_st (fun t_ k_ => XS.aloadN X6.here hx rfl (hb hby d14_31) rfl rfl k_) ?_
  show own_Go p e below _ T6 (mkF m 32 #[.val (.ref t), .val (.int (0 : Int32)), .val (.ref nb2)] [(.ref nb2)])
  refine own_retA X6 hx hlk Bd.returns rfl rfl (hb hby d14_32) ?_ (by decide) (by decide)
  show QCY_double Z (0 : Int32) [] h0 n0 _ T6.heap _
  rw [e6]
  exact ⟨nb2, _, rfl, N6, K6, sz_nb2, g_nb2, V6⟩
theorem ef_rmCYd1 (m : MethodId) (x0 : Addr) (x1 : Int32) : entryFrame m #[(.ref x0), (.int x1)] 3 = mkF m 0 #[.val (.ref x0), .val (.int x1), .unset] [] := by first | (simp [entryFrame, mkF, argsToLocals, Value.category]; done) | rfl
set_option maxRecDepth 65536 in
set_option maxHeartbeats 40000000 in
theorem rmCYd1 (l : Launch) (Z : State) (a0 : Array Value) (hw : ∀ d ∈ tables_1, d.before a0 Z = true) (ws : List Jvm.Cond) (t : Addr) (kt : ClassId) (x0_ x1_ x2_ : UInt64) (h0 : Heap) (n0 : Nat) (Z0 : n0 ≤ h0.size) (At : Arv Z h0 t kt .double (256 : Int32) [(.double x0_), (.double x1_), (.double x2_)] (.double (0 : UInt64))) :
    MetFree l (⟨"java/util/Arrays", "copyOf", "([DI)[D"⟩ : MethodName) (head1 (Jvm.Cond.code (⟨"java/util/Arrays", "copyOf", "([DI)[D"⟩ : MethodName) jdk_65_method_127_code 3 (some (.array .double)) :: ws) ({ frames := 1, cells := 1, slots := 1, locals := 40 } : Room)) (fun a_ U_ => a_ = #[(.ref t), (.int (1 : Int32))] ∧ Z.Warmed39 U_.vm ∧ U_.heap = h0) (fun _ _ _ _ _ => True) (fun _ U_ o_ U'_ => ∃ v_ L_, o_ = .returned v_ ∧ QCY_double Z (1 : Int32) [(.double x0_)] h0 n0 v_ U'_.heap L_ ∧ FrameEnd U_ o_ U'_ L_ ({ frames := 1, cells := 1, slots := 1, locals := 40 } : Room).cells ({ frames := 1, cells := 1, slots := 1, locals := 40 } : Room).slots) := by
  refine MetFree.of_bodySF (plainFor_of_name pn_4) hisR ?_
  intro p e s m args below meth c s₁ Bd hml0 hP hK
  obtain ⟨rfl, hZ, hh⟩ := hP
  have hx := Bd.exec
  have hby := Bd.bytes
  have hml : c.maxLocals = 3 := hml0
  have hown : s.vm.findClass "java/util/Arrays" = some m.cls := findClass_of_methodNamed Bd.named
  have hnm := (name_of_methodNamed Bd.named Bd.method).1
  have hlk := BodyLoose.notSynchronized Bd
  have X0 : Stand p l e ({ frames := 1, cells := 1, slots := 1, locals := 40 } : Room) s m #[(.ref t), (.int (1 : Int32))] below meth c s₁ [] 0 0 := Stand.of_body Bd
  have e0 : s₁.heap = h0 := by rw [← hh, Bd.state]; rfl
  have N0 := Fr.nil n0
  refine own_entry (P := own_End s (QCY_double Z (1 : Int32) [(.double x0_)] h0 n0) ({ frames := 1, cells := 1, slots := 1, locals := 40 } : Room).cells ({ frames := 1, cells := 1, slots := 1, locals := 40 } : Room).slots) (ef_rmCYd1 m t (1 : Int32)) ?_
  show own_Go p e below _ s₁ (mkF m 0 #[.val (.ref t), .val (.int (1 : Int32)), .unset] [])
  refine own_st (fun t_ k_ => XS.iloadN X0.here hx rfl (hb hby d14_0) rfl k_) ?_
  show own_Go p e below _ s₁ (mkF m 1 #[.val (.ref t), .val (.int (1 : Int32)), .unset] [(.int (1 : Int32))])
  refine own_st (fun t_ k_ => XS.aloadN X0.here hx rfl (hb hby d14_1) rfl rfl k_) ?_
  show own_Go p e below _ s₁ (mkF m 2 #[.val (.ref t), .val (.int (1 : Int32)), .unset] [(.ref t), (.int (1 : Int32))])
  obtain ⟨cl1, Ar1, -, S1, N1', -, -⟩ := id At
  refine own_st (fun t_ k_ => X0.arraylength hx (by rw [e0]; exact Ar1.1) (State.isArrayOf_alike hZ.alike Ar1.2.1) (g := (mkF m 2 #[.val (.ref t), .val (.int (1 : Int32)), .unset] [(.ref t), (.int (1 : Int32))])) rfl rfl (hb hby d14_2) t_ k_) ?_
  rw [len_of S1 N1']
  show own_Go p e below _ s₁ (mkF m 3 #[.val (.ref t), .val (.int (1 : Int32)), .unset] [(.int (256 : Int32)), (.int (1 : Int32))])
  refine own_st (fun t_ k_ => XS.icmpYes X0.here hx rfl (pc0 := 3) (pc' := 14) rfl (hb hby d14_3) rfl (by decide) (by decide) (by decide) k_) ?_
  show own_Go p e below _ s₁ (mkF m 14 #[.val (.ref t), .val (.int (1 : Int32)), .unset] [])
  refine own_st (fun t_ k_ => XS.iloadN X0.here hx rfl (hb hby d14_14) rfl k_) ?_
  show own_Go p e below _ s₁ (mkF m 15 #[.val (.ref t), .val (.int (1 : Int32)), .unset] [(.int (1 : Int32))])
  obtain ⟨T2, h2, k2, X2, e2, E2, A2, st2⟩ := newP X0 hx hZ (hw _ (List.mem_of_getElem? (i := 78) rfl)) e0 (g := (mkF m 15 #[.val (.ref t), .val (.int (1 : Int32)), .unset] [(.int (1 : Int32))])) rfl (hb hby d14_15) rfl (by decide) (cap := 1) (by decide) (by decide) (by decide) (by decide)
  obtain ⟨nb2, g2⟩ : ∃ z, z = h0.size := ⟨_, rfl⟩
  rw [← g2] at A2 st2
  refine own_st st2 ?_
  have g_nb2 : n0 ≤ nb2 := Nat.le_trans (Nat.le_trans Z0 (Keep.refl h0 []).1) (Nat.le_of_eq g2.symm)
  have K2 : Keep h0 h2 [] := (Keep.refl h0 []).ext E2
  have sz_nb2 : h0.size ≤ nb2 := Nat.le_trans (Keep.refl h0 []).1 (Nat.le_of_eq g2.symm)
  have V2 : Arv Z h2 nb2 k2 .double (1 : Int32) [(.double (0 : UInt64))] (.double (0 : UInt64)) := (Arv.new A2 (by decide)).pad (pad_rep [] (.double (0 : UInt64)) 1)
  show own_Go p e below _ T2 (mkF m 17 #[.val (.ref t), .val (.int (1 : Int32)), .unset] [(.ref nb2)])
  refine own_st (fun t_ k_ => XS.astoreN X2.here hx rfl (hb hby d14_17) rfl rfl (l' := #[.val (.ref t), .val (.int (1 : Int32)), .val (.ref nb2)]) rfl k_) ?_
  show own_Go p e below _ T2 (mkF m 18 #[.val (.ref t), .val (.int (1 : Int32)), .val (.ref nb2)] [])
  refine own_st (fun t_ k_ => XS.aloadN X2.here hx rfl (hb hby d14_18) rfl rfl k_) ?_
  show own_Go p e below _ T2 (mkF m 19 #[.val (.ref t), .val (.int (1 : Int32)), .val (.ref nb2)] [(.ref t)])
  refine own_st (fun t_ k_ => XS.iconst X2.here hx rfl (hb hby d14_19) k_) ?_
  show own_Go p e below _ T2 (mkF m 20 #[.val (.ref t), .val (.int (1 : Int32)), .val (.ref nb2)] [(.int (0 : Int32)), (.ref t)])
  refine own_st (fun t_ k_ => XS.aloadN X2.here hx rfl (hb hby d14_20) rfl rfl k_) ?_
  show own_Go p e below _ T2 (mkF m 21 #[.val (.ref t), .val (.int (1 : Int32)), .val (.ref nb2)] [(.ref nb2), (.int (0 : Int32)), (.ref t)])
  refine own_st (fun t_ k_ => XS.iconst X2.here hx rfl (hb hby d14_21) k_) ?_
  show own_Go p e below _ T2 (mkF m 22 #[.val (.ref t), .val (.int (1 : Int32)), .val (.ref nb2)] [(.int (0 : Int32)), (.ref nb2), (.int (0 : Int32)), (.ref t)])
  refine own_st (fun t_ k_ => XS.aloadN X2.here hx rfl (hb hby d14_22) rfl rfl k_) ?_
  show own_Go p e below _ T2 (mkF m 23 #[.val (.ref t), .val (.int (1 : Int32)), .val (.ref nb2)] [(.ref t), (.int (0 : Int32)), (.ref nb2), (.int (0 : Int32)), (.ref t)])
  have f4 := (At.ext E2)
  obtain ⟨cl3, Ar3, -, S3, N3', -, -⟩ := id f4
  refine own_st (fun t_ k_ => X2.arraylength hx (by rw [e2]; exact Ar3.1) (State.isArrayOf_alike hZ.alike Ar3.2.1) (g := (mkF m 23 #[.val (.ref t), .val (.int (1 : Int32)), .val (.ref nb2)] [(.ref t), (.int (0 : Int32)), (.ref nb2), (.int (0 : Int32)), (.ref t)])) rfl rfl (hb hby d14_23) t_ k_) ?_
  rw [len_of S3 N3']
  show own_Go p e below _ T2 (mkF m 24 #[.val (.ref t), .val (.int (1 : Int32)), .val (.ref nb2)] [(.int (256 : Int32)), (.int (0 : Int32)), (.ref nb2), (.int (0 : Int32)), (.ref t)])
  refine own_st (fun t_ k_ => XS.iloadN X2.here hx rfl (hb hby d14_24) rfl k_) ?_
  show own_Go p e below _ T2 (mkF m 25 #[.val (.ref t), .val (.int (1 : Int32)), .val (.ref nb2)] [(.int (1 : Int32)), (.int (256 : Int32)), (.int (0 : Int32)), (.ref nb2), (.int (0 : Int32)), (.ref t)])
  refine own_callS X2 hx (y := (⟨"java/lang/Math", "min", "(II)I"⟩ : MethodName)) hown (mvT hZ (hw _ (List.mem_of_getElem? (i := 95) rfl))) (mvT hZ (hw _ (List.mem_of_getElem? (i := 96) rfl))) (mvT hZ (hw _ (List.mem_of_getElem? (i := 97) rfl))) (mvT hZ (hw _ (List.mem_of_getElem? (i := 98) rfl))) (by decide) (backOf (W := 4) (rmMI1 l Z a0 hw [] h2 n0 (Nat.le_trans Z0 K2.1)) hZ (hw _ (List.mem_of_getElem? (i := 98) rfl)) (hw _ (List.mem_of_getElem? (i := 97) rfl)) (by decide) (by decide)) (g := (mkF m 25 #[.val (.ref t), .val (.int (1 : Int32)), .val (.ref nb2)] [(.int (1 : Int32)), (.int (256 : Int32)), (.int (0 : Int32)), (.ref nb2), (.int (0 : Int32)), (.ref t)])) rfl (by rw [hml]; rfl) (argsL := [(.int (256 : Int32)), (.int (1 : Int32))]) (rest := [(.int (0 : Int32)), (.ref nb2), (.int (0 : Int32)), (.ref t)]) (lenOf pd_7 rfl) rfl (by show 2 * 0 + _ ≤ _; exact Nat.le_of_eq rfl) (hb hby d14_25) rfl e2 (by decide) (by decide) ?_
  rintro v5 T5 L5 X5 ⟨rfl, Nq5, hh5⟩
  have N5 := Fr.app N0 Nq5
  show own_Go p e below _ T5 (mkF m 28 #[.val (.ref t), .val (.int (1 : Int32)), .val (.ref nb2)] [(.int (1 : Int32)), (.int (0 : Int32)), (.ref nb2), (.int (0 : Int32)), (.ref t)])
  obtain ⟨T6, h6, L6, X6, e6, N6, Kq6, A6, st6⟩ := cpA X5 hx hZ hown (hw _ (List.mem_of_getElem? (i := 99) rfl)) (hw _ (List.mem_of_getElem? (i := 102) rfl)) (hw _ (List.mem_of_getElem? (i := 100) rfl)) (hw _ (List.mem_of_getElem? (i := 101) rfl)) hh5 f4 V2 (us := [(.double x0_)]) (sp := (0 : Int32)) (dp := (0 : Int32)) (nn := (1 : Int32)) (Or.inl ⟨rfl, rfl⟩) (by decide) (by decide) (by decide) (by decide) (by decide) rfl (Nat.le_of_ble_eq_true rfl) N5 g_nb2 (g := (mkF m 28 #[.val (.ref t), .val (.int (1 : Int32)), .val (.ref nb2)] [(.int (1 : Int32)), (.int (0 : Int32)), (.ref nb2), (.int (0 : Int32)), (.ref t)])) rfl (by rw [hml]; rfl) rfl (hb hby d14_28) (by decide) (W := 0) (by show 2 * 0 + _ ≤ _; exact Nat.le_of_eq rfl) (by decide)
  refine own_st st6 ?_
  have K6 : Keep h0 h6 [] := K2.trans Kq6 (allS (Or.inr sz_nb2) all0)
  have V6 : Arv Z h6 nb2 k2 .double (1 : Int32) [(.double x0_)] (.double (0 : UInt64)) := A6
  show own_Go p e below _ T6 (mkF m 31 #[.val (.ref t), .val (.int (1 : Int32)), .val (.ref nb2)] [])
  refine own_st (fun t_ k_ => XS.aloadN X6.here hx rfl (hb hby d14_31) rfl rfl k_) ?_
  show own_Go p e below _ T6 (mkF m 32 #[.val (.ref t), .val (.int (1 : Int32)), .val (.ref nb2)] [(.ref nb2)])
  refine own_retA X6 hx hlk Bd.returns rfl rfl (hb hby d14_32) ?_ (by decide) (by decide)
  show QCY_double Z (1 : Int32) [(.double x0_)] h0 n0 _ T6.heap _
  rw [e6]
  exact ⟨nb2, _, rfl, N6, K6, sz_nb2, g_nb2, V6⟩
theorem ef_rmCYd2 (m : MethodId) (x0 : Addr) (x1 : Int32) : entryFrame m #[(.ref x0), (.int x1)] 3 = mkF m 0 #[.val (.ref x0), .val (.int x1), .unset] [] := by first | (simp [entryFrame, mkF, argsToLocals, Value.category]; done) | rfl
set_option maxRecDepth 65536 in
set_option maxHeartbeats 40000000 in
theorem rmCYd2 (l : Launch) (Z : State) (a0 : Array Value) (hw : ∀ d ∈ tables_1, d.before a0 Z = true) (ws : List Jvm.Cond) (t : Addr) (kt : ClassId) (x0_ x1_ x2_ : UInt64) (h0 : Heap) (n0 : Nat) (Z0 : n0 ≤ h0.size) (At : Arv Z h0 t kt .double (256 : Int32) [(.double x0_), (.double x1_), (.double x2_)] (.double (0 : UInt64))) :
    MetFree l (⟨"java/util/Arrays", "copyOf", "([DI)[D"⟩ : MethodName) (head1 (Jvm.Cond.code (⟨"java/util/Arrays", "copyOf", "([DI)[D"⟩ : MethodName) jdk_65_method_127_code 3 (some (.array .double)) :: ws) ({ frames := 1, cells := 1, slots := 2, locals := 40 } : Room)) (fun a_ U_ => a_ = #[(.ref t), (.int (2 : Int32))] ∧ Z.Warmed39 U_.vm ∧ U_.heap = h0) (fun _ _ _ _ _ => True) (fun _ U_ o_ U'_ => ∃ v_ L_, o_ = .returned v_ ∧ QCY_double Z (2 : Int32) [(.double x0_), (.double x1_)] h0 n0 v_ U'_.heap L_ ∧ FrameEnd U_ o_ U'_ L_ ({ frames := 1, cells := 1, slots := 2, locals := 40 } : Room).cells ({ frames := 1, cells := 1, slots := 2, locals := 40 } : Room).slots) := by
  refine MetFree.of_bodySF (plainFor_of_name pn_4) hisR ?_
  intro p e s m args below meth c s₁ Bd hml0 hP hK
  obtain ⟨rfl, hZ, hh⟩ := hP
  have hx := Bd.exec
  have hby := Bd.bytes
  have hml : c.maxLocals = 3 := hml0
  have hown : s.vm.findClass "java/util/Arrays" = some m.cls := findClass_of_methodNamed Bd.named
  have hnm := (name_of_methodNamed Bd.named Bd.method).1
  have hlk := BodyLoose.notSynchronized Bd
  have X0 : Stand p l e ({ frames := 1, cells := 1, slots := 2, locals := 40 } : Room) s m #[(.ref t), (.int (2 : Int32))] below meth c s₁ [] 0 0 := Stand.of_body Bd
  have e0 : s₁.heap = h0 := by rw [← hh, Bd.state]; rfl
  have N0 := Fr.nil n0
  refine own_entry (P := own_End s (QCY_double Z (2 : Int32) [(.double x0_), (.double x1_)] h0 n0) ({ frames := 1, cells := 1, slots := 2, locals := 40 } : Room).cells ({ frames := 1, cells := 1, slots := 2, locals := 40 } : Room).slots) (ef_rmCYd2 m t (2 : Int32)) ?_
  show own_Go p e below _ s₁ (mkF m 0 #[.val (.ref t), .val (.int (2 : Int32)), .unset] [])
  refine own_st (fun t_ k_ => XS.iloadN X0.here hx rfl (hb hby d14_0) rfl k_) ?_
  show own_Go p e below _ s₁ (mkF m 1 #[.val (.ref t), .val (.int (2 : Int32)), .unset] [(.int (2 : Int32))])
  refine own_st (fun t_ k_ => XS.aloadN X0.here hx rfl (hb hby d14_1) rfl rfl k_) ?_
  show own_Go p e below _ s₁ (mkF m 2 #[.val (.ref t), .val (.int (2 : Int32)), .unset] [(.ref t), (.int (2 : Int32))])
  obtain ⟨cl1, Ar1, -, S1, N1', -, -⟩ := id At
  refine own_st (fun t_ k_ => X0.arraylength hx (by rw [e0]; exact Ar1.1) (State.isArrayOf_alike hZ.alike Ar1.2.1) (g := (mkF m 2 #[.val (.ref t), .val (.int (2 : Int32)), .unset] [(.ref t), (.int (2 : Int32))])) rfl rfl (hb hby d14_2) t_ k_) ?_
  rw [len_of S1 N1']
  show own_Go p e below _ s₁ (mkF m 3 #[.val (.ref t), .val (.int (2 : Int32)), .unset] [(.int (256 : Int32)), (.int (2 : Int32))])
  refine own_st (fun t_ k_ => XS.icmpYes X0.here hx rfl (pc0 := 3) (pc' := 14) rfl (hb hby d14_3) rfl (by decide) (by decide) (by decide) k_) ?_
  show own_Go p e below _ s₁ (mkF m 14 #[.val (.ref t), .val (.int (2 : Int32)), .unset] [])
  refine own_st (fun t_ k_ => XS.iloadN X0.here hx rfl (hb hby d14_14) rfl k_) ?_
  show own_Go p e below _ s₁ (mkF m 15 #[.val (.ref t), .val (.int (2 : Int32)), .unset] [(.int (2 : Int32))])
  obtain ⟨T2, h2, k2, X2, e2, E2, A2, st2⟩ := newP X0 hx hZ (hw _ (List.mem_of_getElem? (i := 78) rfl)) e0 (g := (mkF m 15 #[.val (.ref t), .val (.int (2 : Int32)), .unset] [(.int (2 : Int32))])) rfl (hb hby d14_15) rfl (by decide) (cap := 2) (by decide) (by decide) (by decide) (by decide)
  obtain ⟨nb2, g2⟩ : ∃ z, z = h0.size := ⟨_, rfl⟩
  rw [← g2] at A2 st2
  refine own_st st2 ?_
  have g_nb2 : n0 ≤ nb2 := Nat.le_trans (Nat.le_trans Z0 (Keep.refl h0 []).1) (Nat.le_of_eq g2.symm)
  have K2 : Keep h0 h2 [] := (Keep.refl h0 []).ext E2
  have sz_nb2 : h0.size ≤ nb2 := Nat.le_trans (Keep.refl h0 []).1 (Nat.le_of_eq g2.symm)
  have V2 : Arv Z h2 nb2 k2 .double (2 : Int32) [(.double (0 : UInt64)), (.double (0 : UInt64))] (.double (0 : UInt64)) := (Arv.new A2 (by decide)).pad (pad_rep [] (.double (0 : UInt64)) 2)
  show own_Go p e below _ T2 (mkF m 17 #[.val (.ref t), .val (.int (2 : Int32)), .unset] [(.ref nb2)])
  refine own_st (fun t_ k_ => XS.astoreN X2.here hx rfl (hb hby d14_17) rfl rfl (l' := #[.val (.ref t), .val (.int (2 : Int32)), .val (.ref nb2)]) rfl k_) ?_
  show own_Go p e below _ T2 (mkF m 18 #[.val (.ref t), .val (.int (2 : Int32)), .val (.ref nb2)] [])
  refine own_st (fun t_ k_ => XS.aloadN X2.here hx rfl (hb hby d14_18) rfl rfl k_) ?_
  show own_Go p e below _ T2 (mkF m 19 #[.val (.ref t), .val (.int (2 : Int32)), .val (.ref nb2)] [(.ref t)])
  refine own_st (fun t_ k_ => XS.iconst X2.here hx rfl (hb hby d14_19) k_) ?_
  show own_Go p e below _ T2 (mkF m 20 #[.val (.ref t), .val (.int (2 : Int32)), .val (.ref nb2)] [(.int (0 : Int32)), (.ref t)])
  refine own_st (fun t_ k_ => XS.aloadN X2.here hx rfl (hb hby d14_20) rfl rfl k_) ?_
  show own_Go p e below _ T2 (mkF m 21 #[.val (.ref t), .val (.int (2 : Int32)), .val (.ref nb2)] [(.ref nb2), (.int (0 : Int32)), (.ref t)])
  refine own_st (fun t_ k_ => XS.iconst X2.here hx rfl (hb hby d14_21) k_) ?_
  show own_Go p e below _ T2 (mkF m 22 #[.val (.ref t), .val (.int (2 : Int32)), .val (.ref nb2)] [(.int (0 : Int32)), (.ref nb2), (.int (0 : Int32)), (.ref t)])
  refine own_st (fun t_ k_ => XS.aloadN X2.here hx rfl (hb hby d14_22) rfl rfl k_) ?_
  show own_Go p e below _ T2 (mkF m 23 #[.val (.ref t), .val (.int (2 : Int32)), .val (.ref nb2)] [(.ref t), (.int (0 : Int32)), (.ref nb2), (.int (0 : Int32)), (.ref t)])
  have f4 := (At.ext E2)
  obtain ⟨cl3, Ar3, -, S3, N3', -, -⟩ := id f4
  refine own_st (fun t_ k_ => X2.arraylength hx (by rw [e2]; exact Ar3.1) (State.isArrayOf_alike hZ.alike Ar3.2.1) (g := (mkF m 23 #[.val (.ref t), .val (.int (2 : Int32)), .val (.ref nb2)] [(.ref t), (.int (0 : Int32)), (.ref nb2), (.int (0 : Int32)), (.ref t)])) rfl rfl (hb hby d14_23) t_ k_) ?_
  rw [len_of S3 N3']
  show own_Go p e below _ T2 (mkF m 24 #[.val (.ref t), .val (.int (2 : Int32)), .val (.ref nb2)] [(.int (256 : Int32)), (.int (0 : Int32)), (.ref nb2), (.int (0 : Int32)), (.ref t)])
  refine own_st (fun t_ k_ => XS.iloadN X2.here hx rfl (hb hby d14_24) rfl k_) ?_
  show own_Go p e below _ T2 (mkF m 25 #[.val (.ref t), .val (.int (2 : Int32)), .val (.ref nb2)] [(.int (2 : Int32)), (.int (256 : Int32)), (.int (0 : Int32)), (.ref nb2), (.int (0 : Int32)), (.ref t)])
  refine own_callS X2 hx (y := (⟨"java/lang/Math", "min", "(II)I"⟩ : MethodName)) hown (mvT hZ (hw _ (List.mem_of_getElem? (i := 95) rfl))) (mvT hZ (hw _ (List.mem_of_getElem? (i := 96) rfl))) (mvT hZ (hw _ (List.mem_of_getElem? (i := 97) rfl))) (mvT hZ (hw _ (List.mem_of_getElem? (i := 98) rfl))) (by decide) (backOf (W := 4) (rmMI2 l Z a0 hw [] h2 n0 (Nat.le_trans Z0 K2.1)) hZ (hw _ (List.mem_of_getElem? (i := 98) rfl)) (hw _ (List.mem_of_getElem? (i := 97) rfl)) (by decide) (by decide)) (g := (mkF m 25 #[.val (.ref t), .val (.int (2 : Int32)), .val (.ref nb2)] [(.int (2 : Int32)), (.int (256 : Int32)), (.int (0 : Int32)), (.ref nb2), (.int (0 : Int32)), (.ref t)])) rfl (by rw [hml]; rfl) (argsL := [(.int (256 : Int32)), (.int (2 : Int32))]) (rest := [(.int (0 : Int32)), (.ref nb2), (.int (0 : Int32)), (.ref t)]) (lenOf pd_7 rfl) rfl (by show 2 * 0 + _ ≤ _; exact Nat.le_of_eq rfl) (hb hby d14_25) rfl e2 (by decide) (by decide) ?_
  rintro v5 T5 L5 X5 ⟨rfl, Nq5, hh5⟩
  have N5 := Fr.app N0 Nq5
  show own_Go p e below _ T5 (mkF m 28 #[.val (.ref t), .val (.int (2 : Int32)), .val (.ref nb2)] [(.int (2 : Int32)), (.int (0 : Int32)), (.ref nb2), (.int (0 : Int32)), (.ref t)])
  obtain ⟨T6, h6, L6, X6, e6, N6, Kq6, A6, st6⟩ := cpA X5 hx hZ hown (hw _ (List.mem_of_getElem? (i := 99) rfl)) (hw _ (List.mem_of_getElem? (i := 102) rfl)) (hw _ (List.mem_of_getElem? (i := 100) rfl)) (hw _ (List.mem_of_getElem? (i := 101) rfl)) hh5 f4 V2 (us := [(.double x0_), (.double x1_)]) (sp := (0 : Int32)) (dp := (0 : Int32)) (nn := (2 : Int32)) (Or.inl ⟨rfl, rfl⟩) (by decide) (by decide) (by decide) (by decide) (by decide) rfl (Nat.le_of_ble_eq_true rfl) N5 g_nb2 (g := (mkF m 28 #[.val (.ref t), .val (.int (2 : Int32)), .val (.ref nb2)] [(.int (2 : Int32)), (.int (0 : Int32)), (.ref nb2), (.int (0 : Int32)), (.ref t)])) rfl (by rw [hml]; rfl) rfl (hb hby d14_28) (by decide) (W := 0) (by show 2 * 0 + _ ≤ _; exact Nat.le_of_eq rfl) (by decide)
  refine own_st st6 ?_
  have K6 : Keep h0 h6 [] := K2.trans Kq6 (allS (Or.inr sz_nb2) all0)
  have V6 : Arv Z h6 nb2 k2 .double (2 : Int32) [(.double x0_), (.double x1_)] (.double (0 : UInt64)) := A6
  show own_Go p e below _ T6 (mkF m 31 #[.val (.ref t), .val (.int (2 : Int32)), .val (.ref nb2)] [])
  refine own_st (fun t_ k_ => XS.aloadN X6.here hx rfl (hb hby d14_31) rfl rfl k_) ?_
  show own_Go p e below _ T6 (mkF m 32 #[.val (.ref t), .val (.int (2 : Int32)), .val (.ref nb2)] [(.ref nb2)])
  refine own_retA X6 hx hlk Bd.returns rfl rfl (hb hby d14_32) ?_ (by decide) (by decide)
  show QCY_double Z (2 : Int32) [(.double x0_), (.double x1_)] h0 n0 _ T6.heap _
  rw [e6]
  exact ⟨nb2, _, rfl, N6, K6, sz_nb2, g_nb2, V6⟩
theorem ef_rmCYd3 (m : MethodId) (x0 : Addr) (x1 : Int32) : entryFrame m #[(.ref x0), (.int x1)] 3 = mkF m 0 #[.val (.ref x0), .val (.int x1), .unset] [] := by first | (simp [entryFrame, mkF, argsToLocals, Value.category]; done) | rfl
set_option maxRecDepth 65536 in
set_option maxHeartbeats 40000000 in
theorem rmCYd3 (l : Launch) (Z : State) (a0 : Array Value) (hw : ∀ d ∈ tables_1, d.before a0 Z = true) (ws : List Jvm.Cond) (t : Addr) (kt : ClassId) (x0_ x1_ x2_ : UInt64) (h0 : Heap) (n0 : Nat) (Z0 : n0 ≤ h0.size) (At : Arv Z h0 t kt .double (256 : Int32) [(.double x0_), (.double x1_), (.double x2_)] (.double (0 : UInt64))) :
    MetFree l (⟨"java/util/Arrays", "copyOf", "([DI)[D"⟩ : MethodName) (head1 (Jvm.Cond.code (⟨"java/util/Arrays", "copyOf", "([DI)[D"⟩ : MethodName) jdk_65_method_127_code 3 (some (.array .double)) :: ws) ({ frames := 1, cells := 1, slots := 3, locals := 40 } : Room)) (fun a_ U_ => a_ = #[(.ref t), (.int (3 : Int32))] ∧ Z.Warmed39 U_.vm ∧ U_.heap = h0) (fun _ _ _ _ _ => True) (fun _ U_ o_ U'_ => ∃ v_ L_, o_ = .returned v_ ∧ QCY_double Z (3 : Int32) [(.double x0_), (.double x1_), (.double x2_)] h0 n0 v_ U'_.heap L_ ∧ FrameEnd U_ o_ U'_ L_ ({ frames := 1, cells := 1, slots := 3, locals := 40 } : Room).cells ({ frames := 1, cells := 1, slots := 3, locals := 40 } : Room).slots) := by
  refine MetFree.of_bodySF (plainFor_of_name pn_4) hisR ?_
  intro p e s m args below meth c s₁ Bd hml0 hP hK
  obtain ⟨rfl, hZ, hh⟩ := hP
  have hx := Bd.exec
  have hby := Bd.bytes
  have hml : c.maxLocals = 3 := hml0
  have hown : s.vm.findClass "java/util/Arrays" = some m.cls := findClass_of_methodNamed Bd.named
  have hnm := (name_of_methodNamed Bd.named Bd.method).1
  have hlk := BodyLoose.notSynchronized Bd
  have X0 : Stand p l e ({ frames := 1, cells := 1, slots := 3, locals := 40 } : Room) s m #[(.ref t), (.int (3 : Int32))] below meth c s₁ [] 0 0 := Stand.of_body Bd
  have e0 : s₁.heap = h0 := by rw [← hh, Bd.state]; rfl
  have N0 := Fr.nil n0
  refine own_entry (P := own_End s (QCY_double Z (3 : Int32) [(.double x0_), (.double x1_), (.double x2_)] h0 n0) ({ frames := 1, cells := 1, slots := 3, locals := 40 } : Room).cells ({ frames := 1, cells := 1, slots := 3, locals := 40 } : Room).slots) (ef_rmCYd3 m t (3 : Int32)) ?_
  show own_Go p e below _ s₁ (mkF m 0 #[.val (.ref t), .val (.int (3 : Int32)), .unset] [])
  refine own_st (fun t_ k_ => XS.iloadN X0.here hx rfl (hb hby d14_0) rfl k_) ?_
  show own_Go p e below _ s₁ (mkF m 1 #[.val (.ref t), .val (.int (3 : Int32)), .unset] [(.int (3 : Int32))])
  refine own_st (fun t_ k_ => XS.aloadN X0.here hx rfl (hb hby d14_1) rfl rfl k_) ?_
  show own_Go p e below _ s₁ (mkF m 2 #[.val (.ref t), .val (.int (3 : Int32)), .unset] [(.ref t), (.int (3 : Int32))])
  obtain ⟨cl1, Ar1, -, S1, N1', -, -⟩ := id At
  refine own_st (fun t_ k_ => X0.arraylength hx (by rw [e0]; exact Ar1.1) (State.isArrayOf_alike hZ.alike Ar1.2.1) (g := (mkF m 2 #[.val (.ref t), .val (.int (3 : Int32)), .unset] [(.ref t), (.int (3 : Int32))])) rfl rfl (hb hby d14_2) t_ k_) ?_
  rw [len_of S1 N1']
  show own_Go p e below _ s₁ (mkF m 3 #[.val (.ref t), .val (.int (3 : Int32)), .unset] [(.int (256 : Int32)), (.int (3 : Int32))])
  refine own_st (fun t_ k_ => XS.icmpYes X0.here hx rfl (pc0 := 3) (pc' := 14) rfl (hb hby d14_3) rfl (by decide) (by decide) (by decide) k_) ?_
  show own_Go p e below _ s₁ (mkF m 14 #[.val (.ref t), .val (.int (3 : Int32)), .unset] [])
  refine own_st (fun t_ k_ => XS.iloadN X0.here hx rfl (hb hby d14_14) rfl k_) ?_
  show own_Go p e below _ s₁ (mkF m 15 #[.val (.ref t), .val (.int (3 : Int32)), .unset] [(.int (3 : Int32))])
  obtain ⟨T2, h2, k2, X2, e2, E2, A2, st2⟩ := newP X0 hx hZ (hw _ (List.mem_of_getElem? (i := 78) rfl)) e0 (g := (mkF m 15 #[.val (.ref t), .val (.int (3 : Int32)), .unset] [(.int (3 : Int32))])) rfl (hb hby d14_15) rfl (by decide) (cap := 3) (by decide) (by decide) (by decide) (by decide)
  obtain ⟨nb2, g2⟩ : ∃ z, z = h0.size := ⟨_, rfl⟩
  rw [← g2] at A2 st2
  refine own_st st2 ?_
  have g_nb2 : n0 ≤ nb2 := Nat.le_trans (Nat.le_trans Z0 (Keep.refl h0 []).1) (Nat.le_of_eq g2.symm)
  have K2 : Keep h0 h2 [] := (Keep.refl h0 []).ext E2
  have sz_nb2 : h0.size ≤ nb2 := Nat.le_trans (Keep.refl h0 []).1 (Nat.le_of_eq g2.symm)
  have V2 : Arv Z h2 nb2 k2 .double (3 : Int32) [(.double (0 : UInt64)), (.double (0 : UInt64)), (.double (0 : UInt64))] (.double (0 : UInt64)) := (Arv.new A2 (by decide)).pad (pad_rep [] (.double (0 : UInt64)) 3)
  show own_Go p e below _ T2 (mkF m 17 #[.val (.ref t), .val (.int (3 : Int32)), .unset] [(.ref nb2)])
  refine own_st (fun t_ k_ => XS.astoreN X2.here hx rfl (hb hby d14_17) rfl rfl (l' := #[.val (.ref t), .val (.int (3 : Int32)), .val (.ref nb2)]) rfl k_) ?_
  show own_Go p e below _ T2 (mkF m 18 #[.val (.ref t), .val (.int (3 : Int32)), .val (.ref nb2)] [])
  refine own_st (fun t_ k_ => XS.aloadN X2.here hx rfl (hb hby d14_18) rfl rfl k_) ?_
  show own_Go p e below _ T2 (mkF m 19 #[.val (.ref t), .val (.int (3 : Int32)), .val (.ref nb2)] [(.ref t)])
  refine own_st (fun t_ k_ => XS.iconst X2.here hx rfl (hb hby d14_19) k_) ?_
  show own_Go p e below _ T2 (mkF m 20 #[.val (.ref t), .val (.int (3 : Int32)), .val (.ref nb2)] [(.int (0 : Int32)), (.ref t)])
  refine own_st (fun t_ k_ => XS.aloadN X2.here hx rfl (hb hby d14_20) rfl rfl k_) ?_
  show own_Go p e below _ T2 (mkF m 21 #[.val (.ref t), .val (.int (3 : Int32)), .val (.ref nb2)] [(.ref nb2), (.int (0 : Int32)), (.ref t)])
  refine own_st (fun t_ k_ => XS.iconst X2.here hx rfl (hb hby d14_21) k_) ?_
  show own_Go p e below _ T2 (mkF m 22 #[.val (.ref t), .val (.int (3 : Int32)), .val (.ref nb2)] [(.int (0 : Int32)), (.ref nb2), (.int (0 : Int32)), (.ref t)])
  refine own_st (fun t_ k_ => XS.aloadN X2.here hx rfl (hb hby d14_22) rfl rfl k_) ?_
  show own_Go p e below _ T2 (mkF m 23 #[.val (.ref t), .val (.int (3 : Int32)), .val (.ref nb2)] [(.ref t), (.int (0 : Int32)), (.ref nb2), (.int (0 : Int32)), (.ref t)])
  have f4 := (At.ext E2)
  obtain ⟨cl3, Ar3, -, S3, N3', -, -⟩ := id f4
  refine own_st (fun t_ k_ => X2.arraylength hx (by rw [e2]; exact Ar3.1) (State.isArrayOf_alike hZ.alike Ar3.2.1) (g := (mkF m 23 #[.val (.ref t), .val (.int (3 : Int32)), .val (.ref nb2)] [(.ref t), (.int (0 : Int32)), (.ref nb2), (.int (0 : Int32)), (.ref t)])) rfl rfl (hb hby d14_23) t_ k_) ?_
  rw [len_of S3 N3']
  show own_Go p e below _ T2 (mkF m 24 #[.val (.ref t), .val (.int (3 : Int32)), .val (.ref nb2)] [(.int (256 : Int32)), (.int (0 : Int32)), (.ref nb2), (.int (0 : Int32)), (.ref t)])
  refine own_st (fun t_ k_ => XS.iloadN X2.here hx rfl (hb hby d14_24) rfl k_) ?_
  show own_Go p e below _ T2 (mkF m 25 #[.val (.ref t), .val (.int (3 : Int32)), .val (.ref nb2)] [(.int (3 : Int32)), (.int (256 : Int32)), (.int (0 : Int32)), (.ref nb2), (.int (0 : Int32)), (.ref t)])
  refine own_callS X2 hx (y := (⟨"java/lang/Math", "min", "(II)I"⟩ : MethodName)) hown (mvT hZ (hw _ (List.mem_of_getElem? (i := 95) rfl))) (mvT hZ (hw _ (List.mem_of_getElem? (i := 96) rfl))) (mvT hZ (hw _ (List.mem_of_getElem? (i := 97) rfl))) (mvT hZ (hw _ (List.mem_of_getElem? (i := 98) rfl))) (by decide) (backOf (W := 4) (rmMI3 l Z a0 hw [] h2 n0 (Nat.le_trans Z0 K2.1)) hZ (hw _ (List.mem_of_getElem? (i := 98) rfl)) (hw _ (List.mem_of_getElem? (i := 97) rfl)) (by decide) (by decide)) (g := (mkF m 25 #[.val (.ref t), .val (.int (3 : Int32)), .val (.ref nb2)] [(.int (3 : Int32)), (.int (256 : Int32)), (.int (0 : Int32)), (.ref nb2), (.int (0 : Int32)), (.ref t)])) rfl (by rw [hml]; rfl) (argsL := [(.int (256 : Int32)), (.int (3 : Int32))]) (rest := [(.int (0 : Int32)), (.ref nb2), (.int (0 : Int32)), (.ref t)]) (lenOf pd_7 rfl) rfl (by show 2 * 0 + _ ≤ _; exact Nat.le_of_eq rfl) (hb hby d14_25) rfl e2 (by decide) (by decide) ?_
  rintro v5 T5 L5 X5 ⟨rfl, Nq5, hh5⟩
  have N5 := Fr.app N0 Nq5
  show own_Go p e below _ T5 (mkF m 28 #[.val (.ref t), .val (.int (3 : Int32)), .val (.ref nb2)] [(.int (3 : Int32)), (.int (0 : Int32)), (.ref nb2), (.int (0 : Int32)), (.ref t)])
  obtain ⟨T6, h6, L6, X6, e6, N6, Kq6, A6, st6⟩ := cpA X5 hx hZ hown (hw _ (List.mem_of_getElem? (i := 99) rfl)) (hw _ (List.mem_of_getElem? (i := 102) rfl)) (hw _ (List.mem_of_getElem? (i := 100) rfl)) (hw _ (List.mem_of_getElem? (i := 101) rfl)) hh5 f4 V2 (us := [(.double x0_), (.double x1_), (.double x2_)]) (sp := (0 : Int32)) (dp := (0 : Int32)) (nn := (3 : Int32)) (Or.inl ⟨rfl, rfl⟩) (by decide) (by decide) (by decide) (by decide) (by decide) rfl (Nat.le_of_ble_eq_true rfl) N5 g_nb2 (g := (mkF m 28 #[.val (.ref t), .val (.int (3 : Int32)), .val (.ref nb2)] [(.int (3 : Int32)), (.int (0 : Int32)), (.ref nb2), (.int (0 : Int32)), (.ref t)])) rfl (by rw [hml]; rfl) rfl (hb hby d14_28) (by decide) (W := 0) (by show 2 * 0 + _ ≤ _; exact Nat.le_of_eq rfl) (by decide)
  refine own_st st6 ?_
  have K6 : Keep h0 h6 [] := K2.trans Kq6 (allS (Or.inr sz_nb2) all0)
  have V6 : Arv Z h6 nb2 k2 .double (3 : Int32) [(.double x0_), (.double x1_), (.double x2_)] (.double (0 : UInt64)) := A6
  show own_Go p e below _ T6 (mkF m 31 #[.val (.ref t), .val (.int (3 : Int32)), .val (.ref nb2)] [])
  refine own_st (fun t_ k_ => XS.aloadN X6.here hx rfl (hb hby d14_31) rfl rfl k_) ?_
  show own_Go p e below _ T6 (mkF m 32 #[.val (.ref t), .val (.int (3 : Int32)), .val (.ref nb2)] [(.ref nb2)])
  refine own_retA X6 hx hlk Bd.returns rfl rfl (hb hby d14_32) ?_ (by decide) (by decide)
  show QCY_double Z (3 : Int32) [(.double x0_), (.double x1_), (.double x2_)] h0 n0 _ T6.heap _
  rw [e6]
  exact ⟨nb2, _, rfl, N6, K6, sz_nb2, g_nb2, V6⟩
def QBI (Z : State) (a : Addr) (h0 : Heap) (n0 : Nat) (v : Option Value) (h : Heap) (L : List Loc) : Prop := ∃ (t1 t2 : Addr) (k1 k2 : ClassId), v = none ∧ Fr n0 L ∧ Keep h0 h [a] ∧ h0.size ≤ t1 ∧ n0 ≤ t1 ∧ h0.size ≤ t2 ∧ n0 ≤ t2 ∧ ¬ t1 = t2 ∧ Exa Z h a "com/example/hebelwerk/hebelwerk/engine/DatedValues$Builder" ∧ Fld Z h a "com/example/hebelwerk/hebelwerk/engine/DatedValues$Builder" "days" "[J" (.ref t1) ∧ Fld Z h a "com/example/hebelwerk/hebelwerk/engine/DatedValues$Builder" "values" "[D" (.ref t2) ∧ Fld Z h a "com/example/hebelwerk/hebelwerk/engine/DatedValues$Builder" "size" "I" (.int (0 : Int32)) ∧ Arv Z h t1 k1 .long (256 : Int32) [(.long (0 : Int64)), (.long (0 : Int64)), (.long (0 : Int64))] (.long (0 : Int64)) ∧ Arv Z h t2 k2 .double (256 : Int32) [(.double (0 : UInt64)), (.double (0 : UInt64)), (.double (0 : UInt64))] (.double (0 : UInt64))
theorem d15_0 : decode prog_20_method_1_code 0 = .ok (.aload_n 0, 1) := by decide +kernel
theorem d15_1 : decode prog_20_method_1_code 1 = .ok (.invokespecial 1, 3) := by decide +kernel
theorem d15_4 : decode prog_20_method_1_code 4 = .ok (.aload_n 0, 1) := by decide +kernel
theorem d15_5 : decode prog_20_method_1_code 5 = .ok (.sipush 256, 3) := by decide +kernel
theorem d15_8 : decode prog_20_method_1_code 8 = .ok (.newarray .long, 2) := by decide +kernel
theorem d15_10 : decode prog_20_method_1_code 10 = .ok (.putfield 7, 3) := by decide +kernel
theorem d15_13 : decode prog_20_method_1_code 13 = .ok (.aload_n 0, 1) := by decide +kernel
theorem d15_14 : decode prog_20_method_1_code 14 = .ok (.sipush 256, 3) := by decide +kernel
theorem d15_17 : decode prog_20_method_1_code 17 = .ok (.newarray .double, 2) := by decide +kernel
theorem d15_19 : decode prog_20_method_1_code 19 = .ok (.putfield 13, 3) := by decide +kernel
theorem d15_22 : decode prog_20_method_1_code 22 = .ok (.return_, 1) := by decide +kernel
theorem pn_5 : plainName "com/example/hebelwerk/hebelwerk/engine/DatedValues$Builder" = true := by first | (simp [plainName, overriddenIn]; done) | decide +kernel
theorem ef_rmBI (m : MethodId) (x0 : Addr) : entryFrame m #[(.ref x0)] 1 = mkF m 0 #[.val (.ref x0)] [] := by first | (simp [entryFrame, mkF, argsToLocals, Value.category]; done) | rfl
set_option maxRecDepth 65536 in
set_option maxHeartbeats 40000000 in
theorem rmBI (l : Launch) (Z : State) (a0 : Array Value) (hw : ∀ d ∈ tables_1, d.before a0 Z = true) (ws : List Jvm.Cond) (a : Addr) (h0 : Heap) (n0 : Nat) (Z0 : n0 ≤ h0.size) (g_a : n0 ≤ a) (Ea : Exa Z h0 a "com/example/hebelwerk/hebelwerk/engine/DatedValues$Builder") (F1 : Fld Z h0 a "com/example/hebelwerk/hebelwerk/engine/DatedValues$Builder" "days" "[J" .null) (F2 : Fld Z h0 a "com/example/hebelwerk/hebelwerk/engine/DatedValues$Builder" "values" "[D" .null) (F3 : Fld Z h0 a "com/example/hebelwerk/hebelwerk/engine/DatedValues$Builder" "size" "I" (.int (0 : Int32))) :
    MetFree l (⟨"com/example/hebelwerk/hebelwerk/engine/DatedValues$Builder", "<init>", "()V"⟩ : MethodName) (head1 (Jvm.Cond.code (⟨"com/example/hebelwerk/hebelwerk/engine/DatedValues$Builder", "<init>", "()V"⟩ : MethodName) prog_20_method_1_code 1 none :: ws) ({ frames := 1, cells := 2, slots := 512, locals := 12 } : Room)) (fun a_ U_ => a_ = #[(.ref a)] ∧ Z.Warmed39 U_.vm ∧ U_.heap = h0) (fun _ _ _ _ _ => True) (fun _ U_ o_ U'_ => ∃ v_ L_, o_ = .returned v_ ∧ QBI Z a h0 n0 v_ U'_.heap L_ ∧ FrameEnd U_ o_ U'_ L_ ({ frames := 1, cells := 2, slots := 512, locals := 12 } : Room).cells ({ frames := 1, cells := 2, slots := 512, locals := 12 } : Room).slots) := by
  refine MetFree.of_bodySF (plainFor_of_name pn_5) hisR ?_
  intro p e s m args below meth c s₁ Bd hml0 hP hK
  obtain ⟨rfl, hZ, hh⟩ := hP
  have hx := Bd.exec
  have hby := Bd.bytes
  have hml : c.maxLocals = 1 := hml0
  have hown : s.vm.findClass "com/example/hebelwerk/hebelwerk/engine/DatedValues$Builder" = some m.cls := findClass_of_methodNamed Bd.named
  have hnm := (name_of_methodNamed Bd.named Bd.method).1
  have hlk := BodyLoose.notSynchronized Bd
  have X0 : Stand p l e ({ frames := 1, cells := 2, slots := 512, locals := 12 } : Room) s m #[(.ref a)] below meth c s₁ [] 0 0 := Stand.of_body Bd
  have e0 : s₁.heap = h0 := by rw [← hh, Bd.state]; rfl
  have N0 := Fr.nil n0
  refine own_entry (P := own_End s (QBI Z a h0 n0) ({ frames := 1, cells := 2, slots := 512, locals := 12 } : Room).cells ({ frames := 1, cells := 2, slots := 512, locals := 12 } : Room).slots) (ef_rmBI m a) ?_
  show own_Go p e below _ s₁ (mkF m 0 #[.val (.ref a)] [])
  refine own_st (fun t_ k_ => XS.aloadN X0.here hx rfl (hb hby d15_0) rfl rfl k_) ?_
  show own_Go p e below _ s₁ (mkF m 1 #[.val (.ref a)] [(.ref a)])
  obtain ⟨T1, X1, e1, st1⟩ := initO X0 hx hZ hown (hw _ (List.mem_of_getElem? (i := 74) rfl)) (hw _ (List.mem_of_getElem? (i := 60) rfl)) (hw _ (List.mem_of_getElem? (i := 61) rfl)) e0 (g := (mkF m 1 #[.val (.ref a)] [(.ref a)])) rfl (by rw [hml]; rfl) rfl (hb hby d15_1) (by decide) (W := 0) (by show 2 * 0 + _ ≤ _; exact Nat.le_of_eq rfl) (by decide)
  refine own_st st1 ?_
  show own_Go p e below _ T1 (mkF m 4 #[.val (.ref a)] [])
  refine own_st (fun t_ k_ => XS.aloadN X1.here hx rfl (hb hby d15_4) rfl rfl k_) ?_
  show own_Go p e below _ T1 (mkF m 5 #[.val (.ref a)] [(.ref a)])
  refine own_st (fun t_ k_ => XS.sipush X1.here hx rfl (hb hby d15_5) k_) ?_
  show own_Go p e below _ T1 (mkF m 8 #[.val (.ref a)] [(.int (256 : Int32)), (.ref a)])
  obtain ⟨T2, h2, k2, X2, e2, E2, A2, st2⟩ := newP X1 hx hZ (hw _ (List.mem_of_getElem? (i := 75) rfl)) e1 (g := (mkF m 8 #[.val (.ref a)] [(.int (256 : Int32)), (.ref a)])) rfl (hb hby d15_8) rfl (by decide) (cap := 256) (by decide) (by decide) (by decide) (by decide)
  obtain ⟨nb2, g2⟩ : ∃ z, z = h0.size := ⟨_, rfl⟩
  rw [← g2] at A2 st2
  refine own_st st2 ?_
  have g_nb2 : n0 ≤ nb2 := Nat.le_trans (Nat.le_trans Z0 (Keep.refl h0 [a]).1) (Nat.le_of_eq g2.symm)
  have K2 : Keep h0 h2 [a] := (Keep.refl h0 [a]).ext E2
  have sz_nb2 : h0.size ≤ nb2 := Nat.le_trans (Keep.refl h0 [a]).1 (Nat.le_of_eq g2.symm)
  have V2 : Arv Z h2 nb2 k2 .long (256 : Int32) [(.long (0 : Int64)), (.long (0 : Int64)), (.long (0 : Int64))] (.long (0 : Int64)) := (Arv.new A2 (by decide)).pad (pad_rep [] (.long (0 : Int64)) 3)
  show own_Go p e below _ T2 (mkF m 10 #[.val (.ref a)] [(.ref nb2), (.ref a)])
  have f4 := (Fld.ext E2 F1)
  have f5 := (Exa.ext E2 Ea)
  obtain ⟨T3, h3, X3, e3, W3, st3⟩ := putF X2 hx hZ hown (host := "") (Or.inl (hw _ (List.mem_of_getElem? (i := 76) rfl))) Via.refl e2 f4 f5 (Or.inl (hw _ (List.mem_of_getElem? (i := 77) rfl))) (hw _ (List.mem_of_getElem? (i := 69) rfl)) (ty := (.array .long)) (by decide) rfl rfl (g := (mkF m 10 #[.val (.ref a)] [(.ref nb2), (.ref a)])) rfl rfl (hb hby d15_10)
  refine own_st st3 ?_
  have N3 := Fr.snoc X3 N0 g_a
  have K3 : Keep h0 h3 [a] := K2.wr W3 (Or.inl (List.mem_of_getElem? (i := 0) rfl))
  have Fw3 := Fld.same W3 f4
  show own_Go p e below _ T3 (mkF m 13 #[.val (.ref a)] [])
  refine own_st (fun t_ k_ => XS.aloadN X3.here hx rfl (hb hby d15_13) rfl rfl k_) ?_
  show own_Go p e below _ T3 (mkF m 14 #[.val (.ref a)] [(.ref a)])
  refine own_st (fun t_ k_ => XS.sipush X3.here hx rfl (hb hby d15_14) k_) ?_
  show own_Go p e below _ T3 (mkF m 17 #[.val (.ref a)] [(.int (256 : Int32)), (.ref a)])
  obtain ⟨T6, h6, k6, X6, e6, E6, A6, st6⟩ := newP X3 hx hZ (hw _ (List.mem_of_getElem? (i := 78) rfl)) e3 (g := (mkF m 17 #[.val (.ref a)] [(.int (256 : Int32)), (.ref a)])) rfl (hb hby d15_17) rfl (by decide) (cap := 256) (by decide) (by decide) (by decide) (by decide)
  obtain ⟨nb6, g6⟩ : ∃ z, z = h3.size := ⟨_, rfl⟩
  rw [← g6] at A6 st6
  refine own_st st6 ?_
  have g_nb6 : n0 ≤ nb6 := Nat.le_trans (Nat.le_trans Z0 K3.1) (Nat.le_of_eq g6.symm)
  have K6 : Keep h0 h6 [a] := K3.ext E6
  have sz_nb6 : h0.size ≤ nb6 := Nat.le_trans K3.1 (Nat.le_of_eq g6.symm)
  have V6 : Arv Z h6 nb6 k6 .double (256 : Int32) [(.double (0 : UInt64)), (.double (0 : UInt64)), (.double (0 : UInt64))] (.double (0 : UInt64)) := (Arv.new A6 (by decide)).pad (pad_rep [] (.double (0 : UInt64)) 3)
  show own_Go p e below _ T6 (mkF m 19 #[.val (.ref a)] [(.ref nb6), (.ref a)])
  have f8 := (Fld.ext E2 F2)
  have f9 := (Fld.other W3 f8 (Or.inr (slot_ne (Or.inl (hw _ (List.mem_of_getElem? (i := 80) rfl))) (Or.inl (hw _ (List.mem_of_getElem? (i := 77) rfl))) (by decide) (t := (.array .double)) (t' := (.array .long)) (by decide) (by decide))))
  have f10 := (Fld.ext E6 f9)
  have f11 := (Exa.wr W3 f5)
  have f12 := (Exa.ext E6 f11)
  obtain ⟨T7, h7, X7, e7, W7, st7⟩ := putF X6 hx hZ hown (host := "") (Or.inl (hw _ (List.mem_of_getElem? (i := 79) rfl))) Via.refl e6 f10 f12 (Or.inl (hw _ (List.mem_of_getElem? (i := 80) rfl))) (hw _ (List.mem_of_getElem? (i := 69) rfl)) (ty := (.array .double)) (by decide) rfl rfl (g := (mkF m 19 #[.val (.ref a)] [(.ref nb6), (.ref a)])) rfl rfl (hb hby d15_19)
  refine own_st st7 ?_
  have N7 := Fr.snoc X7 N3 g_a
  have K7 : Keep h0 h7 [a] := K6.wr W7 (Or.inl (List.mem_of_getElem? (i := 0) rfl))
  have Fw7 := Fld.same W7 f10
  show own_Go p e below _ T7 (mkF m 22 #[.val (.ref a)] [])
  have ne14 : a ≠ nb2 := (Nat.ne_of_lt (Nat.lt_of_lt_of_le Ea.lt (Nat.le_of_eq g2.symm)))
  have f15 := (V2.other W3 (Ne.symm ne14))
  have ne13 : nb2 ≠ nb6 := (Nat.ne_of_lt (Nat.lt_of_lt_of_le f15.lt (Nat.le_of_eq g6.symm)))
  have f16 := (Exa.wr W7 f12)
  have f17 := (Fld.ext E6 Fw3)
  have f18 := (Fld.other W7 f17 (Or.inr (slot_ne (Or.inl (hw _ (List.mem_of_getElem? (i := 77) rfl))) (Or.inl (hw _ (List.mem_of_getElem? (i := 80) rfl))) (by decide) (t := (.array .long)) (t' := (.array .double)) (by decide) (by decide))))
  have f19 := (Fld.ext E2 F3)
  have f20 := (Fld.other W3 f19 (Or.inr (slot_ne (Or.inl (hw _ (List.mem_of_getElem? (i := 90) rfl))) (Or.inl (hw _ (List.mem_of_getElem? (i := 77) rfl))) (by decide) (t := .int) (t' := (.array .long)) (by decide) (by decide))))
  have f21 := (Fld.ext E6 f20)
  have f22 := (Fld.other W7 f21 (Or.inr (slot_ne (Or.inl (hw _ (List.mem_of_getElem? (i := 90) rfl))) (Or.inl (hw _ (List.mem_of_getElem? (i := 80) rfl))) (by decide) (t := .int) (t' := (.array .double)) (by decide) (by decide))))
  have f23 := (f15.ext E6)
  have f24 := (f23.other W7 (Ne.symm ne14))
  have ne25 : a ≠ nb6 := (Nat.ne_of_lt (Nat.lt_of_lt_of_le f11.lt (Nat.le_of_eq g6.symm)))
  have f26 := (V6.other W7 (Ne.symm ne25))
  refine own_ret0 X7 hx hlk Bd.returns (hb hby d15_22) ?_ (by decide) (by decide)
  show QBI Z a h0 n0 _ T7.heap _
  rw [e7]
  exact ⟨nb2, nb6, _, _, rfl, N7, K7, sz_nb2, g_nb2, sz_nb6, g_nb6, ne13, f16, f18, Fw7, f22, f24, f26⟩
def QDI (Z : State) (a t1 t2 : Addr) (h0 : Heap) (n0 : Nat) (v : Option Value) (h : Heap) (L : List Loc) : Prop := v = none ∧ Fr n0 L ∧ Keep h0 h [a] ∧ Exa Z h a "com/example/hebelwerk/hebelwerk/engine/DatedValues" ∧ Fld Z h a "com/example/hebelwerk/hebelwerk/engine/DatedValues" "days" "[J" (.ref t1) ∧ Fld Z h a "com/example/hebelwerk/hebelwerk/engine/DatedValues" "values" "[D" (.ref t2)
theorem d16_0 : decode prog_19_method_1_code 0 = .ok (.aload_n 0, 1) := by decide +kernel
theorem d16_1 : decode prog_19_method_1_code 1 = .ok (.invokespecial 1, 3) := by decide +kernel
theorem d16_4 : decode prog_19_method_1_code 4 = .ok (.aload_n 0, 1) := by decide +kernel
theorem d16_5 : decode prog_19_method_1_code 5 = .ok (.aload_n 1, 1) := by decide +kernel
theorem d16_6 : decode prog_19_method_1_code 6 = .ok (.putfield 7, 3) := by decide +kernel
theorem d16_9 : decode prog_19_method_1_code 9 = .ok (.aload_n 0, 1) := by decide +kernel
theorem d16_10 : decode prog_19_method_1_code 10 = .ok (.aload_n 2, 1) := by decide +kernel
theorem d16_11 : decode prog_19_method_1_code 11 = .ok (.putfield 13, 3) := by decide +kernel
theorem d16_14 : decode prog_19_method_1_code 14 = .ok (.return_, 1) := by decide +kernel
theorem pn_6 : plainName "com/example/hebelwerk/hebelwerk/engine/DatedValues" = true := by first | (simp [plainName, overriddenIn]; done) | decide +kernel
theorem ef_rmDI (m : MethodId) (x0 : Addr) (x1 : Addr) (x2 : Addr) : entryFrame m #[(.ref x0), (.ref x1), (.ref x2)] 3 = mkF m 0 #[.val (.ref x0), .val (.ref x1), .val (.ref x2)] [] := by first | (simp [entryFrame, mkF, argsToLocals, Value.category]; done) | rfl
set_option maxRecDepth 65536 in
set_option maxHeartbeats 40000000 in
theorem rmDI (l : Launch) (Z : State) (a0 : Array Value) (hw : ∀ d ∈ tables_1, d.before a0 Z = true) (ws : List Jvm.Cond) (a t1 t2 : Addr) (h0 : Heap) (n0 : Nat) (Z0 : n0 ≤ h0.size) (g_a : n0 ≤ a) (Ea : Exa Z h0 a "com/example/hebelwerk/hebelwerk/engine/DatedValues") (F1 : Fld Z h0 a "com/example/hebelwerk/hebelwerk/engine/DatedValues" "days" "[J" .null) (F2 : Fld Z h0 a "com/example/hebelwerk/hebelwerk/engine/DatedValues" "values" "[D" .null) :
    MetFree l (⟨"com/example/hebelwerk/hebelwerk/engine/DatedValues", "<init>", "([J[D)V"⟩ : MethodName) (head1 (Jvm.Cond.code (⟨"com/example/hebelwerk/hebelwerk/engine/DatedValues", "<init>", "([J[D)V"⟩ : MethodName) prog_19_method_1_code 3 none :: ws) ({ frames := 1, cells := 0, slots := 0, locals := 12 } : Room)) (fun a_ U_ => a_ = #[(.ref a), (.ref t1), (.ref t2)] ∧ Z.Warmed39 U_.vm ∧ U_.heap = h0) (fun _ _ _ _ _ => True) (fun _ U_ o_ U'_ => ∃ v_ L_, o_ = .returned v_ ∧ QDI Z a t1 t2 h0 n0 v_ U'_.heap L_ ∧ FrameEnd U_ o_ U'_ L_ ({ frames := 1, cells := 0, slots := 0, locals := 12 } : Room).cells ({ frames := 1, cells := 0, slots := 0, locals := 12 } : Room).slots) := by
  refine MetFree.of_bodySF (plainFor_of_name pn_6) hisR ?_
  intro p e s m args below meth c s₁ Bd hml0 hP hK
  obtain ⟨rfl, hZ, hh⟩ := hP
  have hx := Bd.exec
  have hby := Bd.bytes
  have hml : c.maxLocals = 3 := hml0
  have hown : s.vm.findClass "com/example/hebelwerk/hebelwerk/engine/DatedValues" = some m.cls := findClass_of_methodNamed Bd.named
  have hnm := (name_of_methodNamed Bd.named Bd.method).1
  have hlk := BodyLoose.notSynchronized Bd
  have X0 : Stand p l e ({ frames := 1, cells := 0, slots := 0, locals := 12 } : Room) s m #[(.ref a), (.ref t1), (.ref t2)] below meth c s₁ [] 0 0 := Stand.of_body Bd
  have e0 : s₁.heap = h0 := by rw [← hh, Bd.state]; rfl
  have N0 := Fr.nil n0
  refine own_entry (P := own_End s (QDI Z a t1 t2 h0 n0) ({ frames := 1, cells := 0, slots := 0, locals := 12 } : Room).cells ({ frames := 1, cells := 0, slots := 0, locals := 12 } : Room).slots) (ef_rmDI m a t1 t2) ?_
  show own_Go p e below _ s₁ (mkF m 0 #[.val (.ref a), .val (.ref t1), .val (.ref t2)] [])
  refine own_st (fun t_ k_ => XS.aloadN X0.here hx rfl (hb hby d16_0) rfl rfl k_) ?_
  show own_Go p e below _ s₁ (mkF m 1 #[.val (.ref a), .val (.ref t1), .val (.ref t2)] [(.ref a)])
  obtain ⟨T1, X1, e1, st1⟩ := initO X0 hx hZ hown (hw _ (List.mem_of_getElem? (i := 109) rfl)) (hw _ (List.mem_of_getElem? (i := 60) rfl)) (hw _ (List.mem_of_getElem? (i := 61) rfl)) e0 (g := (mkF m 1 #[.val (.ref a), .val (.ref t1), .val (.ref t2)] [(.ref a)])) rfl (by rw [hml]; rfl) rfl (hb hby d16_1) (by decide) (W := 0) (by show 2 * 0 + _ ≤ _; exact Nat.le_of_eq rfl) (by decide)
  refine own_st st1 ?_
  show own_Go p e below _ T1 (mkF m 4 #[.val (.ref a), .val (.ref t1), .val (.ref t2)] [])
  refine own_st (fun t_ k_ => XS.aloadN X1.here hx rfl (hb hby d16_4) rfl rfl k_) ?_
  show own_Go p e below _ T1 (mkF m 5 #[.val (.ref a), .val (.ref t1), .val (.ref t2)] [(.ref a)])
  refine own_st (fun t_ k_ => XS.aloadN X1.here hx rfl (hb hby d16_5) rfl rfl k_) ?_
  show own_Go p e below _ T1 (mkF m 6 #[.val (.ref a), .val (.ref t1), .val (.ref t2)] [(.ref t1), (.ref a)])
  obtain ⟨T2, h2, X2, e2, W2, st2⟩ := putF X1 hx hZ hown (host := "") (Or.inl (hw _ (List.mem_of_getElem? (i := 110) rfl))) Via.refl e1 F1 Ea (Or.inr ⟨(hw _ (List.mem_of_getElem? (i := 111) rfl)), rfl, hnm⟩) (hw _ (List.mem_of_getElem? (i := 87) rfl)) (ty := (.array .long)) (by decide) rfl rfl (g := (mkF m 6 #[.val (.ref a), .val (.ref t1), .val (.ref t2)] [(.ref t1), (.ref a)])) rfl rfl (hb hby d16_6)
  refine own_st st2 ?_
  have N2 := Fr.snoc X2 N0 g_a
  have K2 : Keep h0 h2 [a] := (Keep.refl h0 [a]).wr W2 (Or.inl (List.mem_of_getElem? (i := 0) rfl))
  have Fw2 := Fld.same W2 F1
  show own_Go p e below _ T2 (mkF m 9 #[.val (.ref a), .val (.ref t1), .val (.ref t2)] [])
  refine own_st (fun t_ k_ => XS.aloadN X2.here hx rfl (hb hby d16_9) rfl rfl k_) ?_
  show own_Go p e below _ T2 (mkF m 10 #[.val (.ref a), .val (.ref t1), .val (.ref t2)] [(.ref a)])
  refine own_st (fun t_ k_ => XS.aloadN X2.here hx rfl (hb hby d16_10) rfl rfl k_) ?_
  show own_Go p e below _ T2 (mkF m 11 #[.val (.ref a), .val (.ref t1), .val (.ref t2)] [(.ref t2), (.ref a)])
  have f4 := (Fld.other W2 F2 (Or.inr (slot_ne (Or.inr (hw _ (List.mem_of_getElem? (i := 113) rfl))) (Or.inr (hw _ (List.mem_of_getElem? (i := 111) rfl))) (by decide) (t := (.array .double)) (t' := (.array .long)) (by decide) (by decide))))
  have f5 := (Exa.wr W2 Ea)
  obtain ⟨T3, h3, X3, e3, W3, st3⟩ := putF X2 hx hZ hown (host := "") (Or.inl (hw _ (List.mem_of_getElem? (i := 112) rfl))) Via.refl e2 f4 f5 (Or.inr ⟨(hw _ (List.mem_of_getElem? (i := 113) rfl)), rfl, hnm⟩) (hw _ (List.mem_of_getElem? (i := 87) rfl)) (ty := (.array .double)) (by decide) rfl rfl (g := (mkF m 11 #[.val (.ref a), .val (.ref t1), .val (.ref t2)] [(.ref t2), (.ref a)])) rfl rfl (hb hby d16_11)
  refine own_st st3 ?_
  have N3 := Fr.snoc X3 N2 g_a
  have K3 : Keep h0 h3 [a] := K2.wr W3 (Or.inl (List.mem_of_getElem? (i := 0) rfl))
  have Fw3 := Fld.same W3 f4
  show own_Go p e below _ T3 (mkF m 14 #[.val (.ref a), .val (.ref t1), .val (.ref t2)] [])
  have f6 := (Exa.wr W3 f5)
  have f7 := (Fld.other W3 Fw2 (Or.inr (slot_ne (Or.inr (hw _ (List.mem_of_getElem? (i := 111) rfl))) (Or.inr (hw _ (List.mem_of_getElem? (i := 113) rfl))) (by decide) (t := (.array .long)) (t' := (.array .double)) (by decide) (by decide))))
  refine own_ret0 X3 hx hlk Bd.returns (hb hby d16_14) ?_ (by decide) (by decide)
  show QDI Z a t1 t2 h0 n0 _ T3.heap _
  rw [e3]
  exact ⟨rfl, N3, K3, f6, f7, Fw3⟩
def QBD0 (Z : State) (j0 j1 j2 : Int64) (x0_ x1_ x2_ : UInt64) (h0 : Heap) (n0 : Nat) (v : Option Value) (h : Heap) (L : List Loc) : Prop := ∃ (o t1 t2 : Addr) (k1 k2 : ClassId), v = some (.ref o) ∧ Fr n0 L ∧ Keep h0 h [] ∧ Exa Z h o "com/example/hebelwerk/hebelwerk/engine/DatedValues" ∧ Fld Z h o "com/example/hebelwerk/hebelwerk/engine/DatedValues" "days" "[J" (.ref t1) ∧ Fld Z h o "com/example/hebelwerk/hebelwerk/engine/DatedValues" "values" "[D" (.ref t2) ∧ Arv Z h t1 k1 .long (0 : Int32) [] (.long (0 : Int64)) ∧ Arv Z h t2 k2 .double (0 : Int32) [] (.double (0 : UInt64))
theorem d17_0 : decode prog_20_method_3_code 0 = .ok (.new 64, 3) := by decide +kernel
theorem d17_3 : decode prog_20_method_3_code 3 = .ok (.dup, 1) := by decide +kernel
theorem d17_4 : decode prog_20_method_3_code 4 = .ok (.aload_n 0, 1) := by decide +kernel
theorem d17_5 : decode prog_20_method_3_code 5 = .ok (.getfield 7, 3) := by decide +kernel
theorem d17_8 : decode prog_20_method_3_code 8 = .ok (.aload_n 0, 1) := by decide +kernel
theorem d17_9 : decode prog_20_method_3_code 9 = .ok (.getfield 23, 3) := by decide +kernel
theorem d17_12 : decode prog_20_method_3_code 12 = .ok (.invokestatic 55, 3) := by decide +kernel
theorem pd_8 : parseMethodDescriptor "([JI)[J" = some ⟨[(.array .long), .int], some (.array .long)⟩ := by decide +kernel
theorem d17_15 : decode prog_20_method_3_code 15 = .ok (.aload_n 0, 1) := by decide +kernel
theorem d17_16 : decode prog_20_method_3_code 16 = .ok (.getfield 13, 3) := by decide +kernel
theorem d17_19 : decode prog_20_method_3_code 19 = .ok (.aload_n 0, 1) := by decide +kernel
theorem d17_20 : decode prog_20_method_3_code 20 = .ok (.getfield 23, 3) := by decide +kernel
theorem d17_23 : decode prog_20_method_3_code 23 = .ok (.invokestatic 61, 3) := by decide +kernel
theorem pd_9 : parseMethodDescriptor "([DI)[D" = some ⟨[(.array .double), .int], some (.array .double)⟩ := by decide +kernel
theorem d17_26 : decode prog_20_method_3_code 26 = .ok (.invokespecial 66, 3) := by decide +kernel
theorem pd_10 : parseMethodDescriptor "([J[D)V" = some ⟨[(.array .long), (.array .double)], none⟩ := by decide +kernel
theorem d17_29 : decode prog_20_method_3_code 29 = .ok (.areturn, 1) := by decide +kernel
theorem ef_rmBD0 (m : MethodId) (x0 : Addr) : entryFrame m #[(.ref x0)] 1 = mkF m 0 #[.val (.ref x0)] [] := by first | (simp [entryFrame, mkF, argsToLocals, Value.category]; done) | rfl
set_option maxRecDepth 65536 in
set_option maxHeartbeats 40000000 in
theorem rmBD0 (l : Launch) (Z : State) (a0 : Array Value) (hw : ∀ d ∈ tables_1, d.before a0 Z = true) (ws : List Jvm.Cond) (a t1 t2 : Addr) (k1 k2 : ClassId) (j0 j1 j2 : Int64) (x0_ x1_ x2_ : UInt64) (h0 : Heap) (n0 : Nat) (Z0 : n0 ≤ h0.size) (Ea : Exa Z h0 a "com/example/hebelwerk/hebelwerk/engine/DatedValues$Builder") (F1 : Fld Z h0 a "com/example/hebelwerk/hebelwerk/engine/DatedValues$Builder" "days" "[J" (.ref t1)) (F2 : Fld Z h0 a "com/example/hebelwerk/hebelwerk/engine/DatedValues$Builder" "values" "[D" (.ref t2)) (F3 : Fld Z h0 a "com/example/hebelwerk/hebelwerk/engine/DatedValues$Builder" "size" "I" (.int (0 : Int32))) (Pj1 : Arv Z h0 t1 k1 .long (256 : Int32) [(.long j0), (.long j1), (.long j2)] (.long (0 : Int64))) (Pj2 : Arv Z h0 t2 k2 .double (256 : Int32) [(.double x0_), (.double x1_), (.double x2_)] (.double (0 : UInt64))) :
    MetFree l (⟨"com/example/hebelwerk/hebelwerk/engine/DatedValues$Builder", "build", "()Lcom/example/hebelwerk/hebelwerk/engine/DatedValues;"⟩ : MethodName) (head1 (Jvm.Cond.code (⟨"com/example/hebelwerk/hebelwerk/engine/DatedValues$Builder", "build", "()Lcom/example/hebelwerk/hebelwerk/engine/DatedValues;"⟩ : MethodName) prog_20_method_3_code 1 (some (.object "com/example/hebelwerk/hebelwerk/engine/DatedValues")) :: ws) ({ frames := 2, cells := 3, slots := 2, locals := 57 } : Room)) (fun a_ U_ => a_ = #[(.ref a)] ∧ Z.Warmed39 U_.vm ∧ U_.heap = h0) (fun _ _ _ _ _ => True) (fun _ U_ o_ U'_ => ∃ v_ L_, o_ = .returned v_ ∧ QBD0 Z j0 j1 j2 x0_ x1_ x2_ h0 n0 v_ U'_.heap L_ ∧ FrameEnd U_ o_ U'_ L_ ({ frames := 2, cells := 3, slots := 2, locals := 57 } : Room).cells ({ frames := 2, cells := 3, slots := 2, locals := 57 } : Room).slots) := by
  refine MetFree.of_bodySF (plainFor_of_name pn_5) hisR ?_
  intro p e s m args below meth c s₁ Bd hml0 hP hK
  obtain ⟨rfl, hZ, hh⟩ := hP
  have hx := Bd.exec
  have hby := Bd.bytes
  have hml : c.maxLocals = 1 := hml0
  have hown : s.vm.findClass "com/example/hebelwerk/hebelwerk/engine/DatedValues$Builder" = some m.cls := findClass_of_methodNamed Bd.named
  have hnm := (name_of_methodNamed Bd.named Bd.method).1
  have hlk := BodyLoose.notSynchronized Bd
  have X0 : Stand p l e ({ frames := 2, cells := 3, slots := 2, locals := 57 } : Room) s m #[(.ref a)] below meth c s₁ [] 0 0 := Stand.of_body Bd
  have e0 : s₁.heap = h0 := by rw [← hh, Bd.state]; rfl
  have N0 := Fr.nil n0
  refine own_entry (P := own_End s (QBD0 Z j0 j1 j2 x0_ x1_ x2_ h0 n0) ({ frames := 2, cells := 3, slots := 2, locals := 57 } : Room).cells ({ frames := 2, cells := 3, slots := 2, locals := 57 } : Room).slots) (ef_rmBD0 m a) ?_
  show own_Go p e below _ s₁ (mkF m 0 #[.val (.ref a)] [])
  obtain ⟨T1, h1, X1, e1, E1, A1, D1, cel1, st1⟩ := newO X0 hx hZ hown (hw _ (List.mem_of_getElem? (i := 86) rfl)) (hw _ (List.mem_of_getElem? (i := 87) rfl)) (hw _ (List.mem_of_getElem? (i := 88) rfl)) e0 (g := (mkF m 0 #[.val (.ref a)] [])) rfl (hb hby d17_0) (by decide) (by decide)
  obtain ⟨nb1, g1⟩ : ∃ z, z = h0.size := ⟨_, rfl⟩
  rw [← g1] at A1 D1 cel1 st1
  refine own_st st1 ?_
  have g_nb1 : n0 ≤ nb1 := Nat.le_trans (Nat.le_trans Z0 (Keep.refl h0 []).1) (Nat.le_of_eq g1.symm)
  have K1 : Keep h0 h1 [] := (Keep.refl h0 []).ext E1
  have sz_nb1 : h0.size ≤ nb1 := Nat.le_trans (Keep.refl h0 []).1 (Nat.le_of_eq g1.symm)
  have F1_days : Fld Z h1 nb1 "com/example/hebelwerk/hebelwerk/engine/DatedValues" "days" "[J" .null := D1 (Or.inr (hw _ (List.mem_of_getElem? (i := 111) rfl))) (ty := (.array .long)) (by decide)
  have F1_values : Fld Z h1 nb1 "com/example/hebelwerk/hebelwerk/engine/DatedValues" "values" "[D" .null := D1 (Or.inr (hw _ (List.mem_of_getElem? (i := 113) rfl))) (ty := (.array .double)) (by decide)
  show own_Go p e below _ T1 (mkF m 3 #[.val (.ref a)] [(.ref nb1)])
  refine own_st (fun t_ k_ => XS.dup X1.here hx rfl (hb hby d17_3) rfl rfl k_) ?_
  show own_Go p e below _ T1 (mkF m 4 #[.val (.ref a)] [(.ref nb1), (.ref nb1)])
  refine own_st (fun t_ k_ => XS.aloadN X1.here hx rfl (hb hby d17_4) rfl rfl k_) ?_
  show own_Go p e below _ T1 (mkF m 5 #[.val (.ref a)] [(.ref a), (.ref nb1), (.ref nb1)])
  have f2 := (Fld.ext E1 F1)
  obtain ⟨T3, X3, e3, st3⟩ := getF X1 hx hZ hown (host := "") (Or.inl (hw _ (List.mem_of_getElem? (i := 76) rfl))) Via.refl e1 f2 (g := (mkF m 5 #[.val (.ref a)] [(.ref a), (.ref nb1), (.ref nb1)])) rfl rfl (hb hby d17_5)
  refine own_st st3 ?_
  show own_Go p e below _ T3 (mkF m 8 #[.val (.ref a)] [(.ref t1), (.ref nb1), (.ref nb1)])
  refine own_st (fun t_ k_ => XS.aloadN X3.here hx rfl (hb hby d17_8) rfl rfl k_) ?_
  show own_Go p e below _ T3 (mkF m 9 #[.val (.ref a)] [(.ref a), (.ref t1), (.ref nb1), (.ref nb1)])
  have f4 := (Fld.ext E1 F3)
  obtain ⟨T5, X5, e5, st5⟩ := getF X3 hx hZ hown (host := "") (Or.inl (hw _ (List.mem_of_getElem? (i := 89) rfl))) Via.refl e3 f4 (g := (mkF m 9 #[.val (.ref a)] [(.ref a), (.ref t1), (.ref nb1), (.ref nb1)])) rfl rfl (hb hby d17_9)
  refine own_st st5 ?_
  show own_Go p e below _ T5 (mkF m 12 #[.val (.ref a)] [(.int (0 : Int32)), (.ref t1), (.ref nb1), (.ref nb1)])
  have f6 := (Pj1.ext E1)
  refine own_callS X5 hx (y := (⟨"java/util/Arrays", "copyOf", "([JI)[J"⟩ : MethodName)) hown (mvT hZ (hw _ (List.mem_of_getElem? (i := 91) rfl))) (mvT hZ (hw _ (List.mem_of_getElem? (i := 92) rfl))) (mvT hZ (hw _ (List.mem_of_getElem? (i := 93) rfl))) (mvT hZ (hw _ (List.mem_of_getElem? (i := 94) rfl))) (by decide) (backOf (W := 2) (rmCYl0 l Z a0 hw [] t1 k1 j0 j1 j2 h1 n0 (Nat.le_trans Z0 K1.1) f6) hZ (hw _ (List.mem_of_getElem? (i := 94) rfl)) (hw _ (List.mem_of_getElem? (i := 93) rfl)) (by decide) (by decide)) (g := (mkF m 12 #[.val (.ref a)] [(.int (0 : Int32)), (.ref t1), (.ref nb1), (.ref nb1)])) rfl (by rw [hml]; rfl) (argsL := [(.ref t1), (.int (0 : Int32))]) (rest := [(.ref nb1), (.ref nb1)]) (lenOf pd_8 rfl) rfl (by show 2 * 0 + _ ≤ _; exact Nat.le_of_eq rfl) (hb hby d17_12) rfl e5 (by decide) (by decide) ?_
  rintro v7 T7 L7 X7 ⟨x7, k7, rfl, Nq7, Kq7, gx7, g_x7, Ax7⟩
  have N7 := Fr.app N0 Nq7
  have K7 : Keep h0 T7.heap [] := K1.trans Kq7 all0
  have sz_x7 : h0.size ≤ x7 := Nat.le_trans K1.1 gx7
  show own_Go p e below _ T7 (mkF m 15 #[.val (.ref a)] [(.ref x7), (.ref nb1), (.ref nb1)])
  refine own_st (fun t_ k_ => XS.aloadN X7.here hx rfl (hb hby d17_15) rfl rfl k_) ?_
  show own_Go p e below _ T7 (mkF m 16 #[.val (.ref a)] [(.ref a), (.ref x7), (.ref nb1), (.ref nb1)])
  have f8 := (Fld.ext E1 F2)
  have f9 := (f8.keep Kq7 nin0)
  obtain ⟨T10, X10, e10, st10⟩ := getF X7 hx hZ hown (host := "") (Or.inl (hw _ (List.mem_of_getElem? (i := 79) rfl))) Via.refl rfl f9 (g := (mkF m 16 #[.val (.ref a)] [(.ref a), (.ref x7), (.ref nb1), (.ref nb1)])) rfl rfl (hb hby d17_16)
  refine own_st st10 ?_
  show own_Go p e below _ T10 (mkF m 19 #[.val (.ref a)] [(.ref t2), (.ref x7), (.ref nb1), (.ref nb1)])
  refine own_st (fun t_ k_ => XS.aloadN X10.here hx rfl (hb hby d17_19) rfl rfl k_) ?_
  show own_Go p e below _ T10 (mkF m 20 #[.val (.ref a)] [(.ref a), (.ref t2), (.ref x7), (.ref nb1), (.ref nb1)])
  have f11 := (f4.keep Kq7 nin0)
  obtain ⟨T12, X12, e12, st12⟩ := getF X10 hx hZ hown (host := "") (Or.inl (hw _ (List.mem_of_getElem? (i := 89) rfl))) Via.refl e10 f11 (g := (mkF m 20 #[.val (.ref a)] [(.ref a), (.ref t2), (.ref x7), (.ref nb1), (.ref nb1)])) rfl rfl (hb hby d17_20)
  refine own_st st12 ?_
  show own_Go p e below _ T12 (mkF m 23 #[.val (.ref a)] [(.int (0 : Int32)), (.ref t2), (.ref x7), (.ref nb1), (.ref nb1)])
  have f13 := (Pj2.ext E1)
  have f14 := (f13.keep Kq7 nin0)
  refine own_callS X12 hx (y := (⟨"java/util/Arrays", "copyOf", "([DI)[D"⟩ : MethodName)) hown (mvT hZ (hw _ (List.mem_of_getElem? (i := 103) rfl))) (mvT hZ (hw _ (List.mem_of_getElem? (i := 104) rfl))) (mvT hZ (hw _ (List.mem_of_getElem? (i := 93) rfl))) (mvT hZ (hw _ (List.mem_of_getElem? (i := 105) rfl))) (by decide) (backOf (W := 3) (rmCYd0 l Z a0 hw [] t2 k2 x0_ x1_ x2_ T7.heap n0 (Nat.le_trans Z0 K7.1) f14) hZ (hw _ (List.mem_of_getElem? (i := 105) rfl)) (hw _ (List.mem_of_getElem? (i := 93) rfl)) (by decide) (by decide)) (g := (mkF m 23 #[.val (.ref a)] [(.int (0 : Int32)), (.ref t2), (.ref x7), (.ref nb1), (.ref nb1)])) rfl (by rw [hml]; rfl) (argsL := [(.ref t2), (.int (0 : Int32))]) (rest := [(.ref x7), (.ref nb1), (.ref nb1)]) (lenOf pd_9 rfl) rfl (by show 2 * 0 + _ ≤ _; exact Nat.le_of_eq rfl) (hb hby d17_23) rfl e12 (by decide) (by decide) ?_
  rintro v15 T15 L15 X15 ⟨x15, k15, rfl, Nq15, Kq15, gx15, g_x15, Ax15⟩
  have N15 := Fr.app N7 Nq15
  have K15 : Keep h0 T15.heap [] := K7.trans Kq15 all0
  have sz_x15 : h0.size ≤ x15 := Nat.le_trans K7.1 gx15
  show own_Go p e below _ T15 (mkF m 26 #[.val (.ref a)] [(.ref x15), (.ref x7), (.ref nb1), (.ref nb1)])
  have f16 := (A1.keep Kq7)
  have f17 := (f16.keep Kq15)
  have f18 := (F1_days.keep Kq7 nin0)
  have f19 := (f18.keep Kq15 nin0)
  have f20 := (F1_values.keep Kq7 nin0)
  have f21 := (f20.keep Kq15 nin0)
  refine own_callNN X15 hx (y := (⟨"com/example/hebelwerk/hebelwerk/engine/DatedValues", "<init>", "([J[D)V"⟩ : MethodName)) rfl hown (own_mvMN hZ (hw _ (List.mem_of_getElem? (i := 106) rfl))) (mvT hZ (hw _ (List.mem_of_getElem? (i := 107) rfl))) (mvT hZ (hw _ (List.mem_of_getElem? (i := 108) rfl))) (by decide) (backOf (W := 1) (rmDI l Z a0 hw [] nb1 x7 x15 T15.heap n0 (Nat.le_trans Z0 K15.1) g_nb1 f17 f19 f21) hZ (hw _ (List.mem_of_getElem? (i := 108) rfl)) (hw _ (List.mem_of_getElem? (i := 88) rfl)) (by decide) (by decide)) (a := nb1) (g := (mkF m 26 #[.val (.ref a)] [(.ref x15), (.ref x7), (.ref nb1), (.ref nb1)])) rfl (by rw [hml]; rfl) (argsL := [(.ref x7), (.ref x15)]) (rest := [(.ref nb1)]) (lenOf pd_10 rfl) rfl (by show 2 * 0 + _ ≤ _; exact Nat.le_of_eq rfl) (hb hby d17_26) rfl rfl (by decide) (by decide) ?_
  rintro v22 T22 L22 X22 ⟨rfl, Nq22, Kq22, Eq22, Fd22, Fv22⟩
  have N22 := Fr.app N15 Nq22
  have K22 : Keep h0 T22.heap [] := K15.trans Kq22 (allS (Or.inr sz_nb1) all0)
  show own_Go p e below _ T22 (mkF m 29 #[.val (.ref a)] [(.ref nb1)])
  have f23 := (Ax7.keep Kq15 nin0)
  have ne24 : nb1 ≠ x7 := (Nat.ne_of_lt (Nat.lt_of_lt_of_le A1.lt gx7))
  have f25 := (f23.keep Kq22 (ninS (Ne.symm ne24) nin0))
  have ne26 : nb1 ≠ x15 := (Nat.ne_of_lt (Nat.lt_of_lt_of_le f16.lt gx15))
  have f27 := (Ax15.keep Kq22 (ninS (Ne.symm ne26) nin0))
  refine own_retA X22 hx hlk Bd.returns rfl rfl (hb hby d17_29) ?_ (by decide) (by decide)
  show QBD0 Z j0 j1 j2 x0_ x1_ x2_ h0 n0 _ T22.heap _
  exact ⟨nb1, x7, x15, _, _, rfl, N22, K22, Eq22, Fd22, Fv22, f25, f27⟩
theorem d18_0 : decode prog_19_method_3_code 0 = .ok (.aload_n 0, 1) := by decide +kernel
theorem d18_1 : decode prog_19_method_3_code 1 = .ok (.getfield 7, 3) := by decide +kernel
theorem d18_4 : decode prog_19_method_3_code 4 = .ok (.arraylength, 1) := by decide +kernel
theorem d18_5 : decode prog_19_method_3_code 5 = .ok (.ireturn, 1) := by decide +kernel
theorem ef_rmSI0 (m : MethodId) (x0 : Addr) : entryFrame m #[(.ref x0)] 1 = mkF m 0 #[.val (.ref x0)] [] := by first | (simp [entryFrame, mkF, argsToLocals, Value.category]; done) | rfl
set_option maxRecDepth 65536 in
set_option maxHeartbeats 40000000 in
theorem rmSI0 (l : Launch) (Z : State) (a0 : Array Value) (hw : ∀ d ∈ tables_1, d.before a0 Z = true) (ws : List Jvm.Cond) (a t1 : Addr) (k1 : ClassId) (h0 : Heap) (n0 : Nat) (Z0 : n0 ≤ h0.size) (F1 : Fld Z h0 a "com/example/hebelwerk/hebelwerk/engine/DatedValues" "days" "[J" (.ref t1)) (Pj1 : Arv Z h0 t1 k1 .long (0 : Int32) [] (.long (0 : Int64))) :
    MetFree l (⟨"com/example/hebelwerk/hebelwerk/engine/DatedValues", "size", "()I"⟩ : MethodName) (head1 (Jvm.Cond.code (⟨"com/example/hebelwerk/hebelwerk/engine/DatedValues", "size", "()I"⟩ : MethodName) prog_19_method_3_code 1 (some .int) :: ws) ({ frames := 0, cells := 0, slots := 0, locals := 0 } : Room)) (fun a_ U_ => a_ = #[(.ref a)] ∧ Z.Warmed39 U_.vm ∧ U_.heap = h0) (fun _ _ _ _ _ => True) (fun _ U_ o_ U'_ => ∃ v_ L_, o_ = .returned v_ ∧ QR (.int (0 : Int32)) h0 n0 v_ U'_.heap L_ ∧ FrameEnd U_ o_ U'_ L_ ({ frames := 0, cells := 0, slots := 0, locals := 0 } : Room).cells ({ frames := 0, cells := 0, slots := 0, locals := 0 } : Room).slots) := by
  refine MetFree.of_bodySF (plainFor_of_name pn_6) hisR ?_
  intro p e s m args below meth c s₁ Bd hml0 hP hK
  obtain ⟨rfl, hZ, hh⟩ := hP
  have hx := Bd.exec
  have hby := Bd.bytes
  have hml : c.maxLocals = 1 := hml0
  have hown : s.vm.findClass "com/example/hebelwerk/hebelwerk/engine/DatedValues" = some m.cls := findClass_of_methodNamed Bd.named
  have hnm := (name_of_methodNamed Bd.named Bd.method).1
  have hlk := BodyLoose.notSynchronized Bd
  have X0 : Stand p l e ({ frames := 0, cells := 0, slots := 0, locals := 0 } : Room) s m #[(.ref a)] below meth c s₁ [] 0 0 := Stand.of_body Bd
  have e0 : s₁.heap = h0 := by rw [← hh, Bd.state]; rfl
  have N0 := Fr.nil n0
  refine own_entry (P := own_End s (QR (.int (0 : Int32)) h0 n0) ({ frames := 0, cells := 0, slots := 0, locals := 0 } : Room).cells ({ frames := 0, cells := 0, slots := 0, locals := 0 } : Room).slots) (ef_rmSI0 m a) ?_
  show own_Go p e below _ s₁ (mkF m 0 #[.val (.ref a)] [])
  refine own_st (fun t_ k_ => XS.aloadN X0.here hx rfl (hb hby d18_0) rfl rfl k_) ?_
  show own_Go p e below _ s₁ (mkF m 1 #[.val (.ref a)] [(.ref a)])
  obtain ⟨T1, X1, e1, st1⟩ := getF X0 hx hZ hown (host := "") (Or.inl (hw _ (List.mem_of_getElem? (i := 110) rfl))) Via.refl e0 F1 (g := (mkF m 1 #[.val (.ref a)] [(.ref a)])) rfl rfl (hb hby d18_1)
  refine own_st st1 ?_
  show own_Go p e below _ T1 (mkF m 4 #[.val (.ref a)] [(.ref t1)])
  obtain ⟨cl2, Ar2, -, S2, N2', -, -⟩ := id Pj1
  refine own_st (fun t_ k_ => X1.arraylength hx (by rw [e1]; exact Ar2.1) (State.isArrayOf_alike hZ.alike Ar2.2.1) (g := (mkF m 4 #[.val (.ref a)] [(.ref t1)])) rfl rfl (hb hby d18_4) t_ k_) ?_
  rw [len_of S2 N2']
  show own_Go p e below _ T1 (mkF m 5 #[.val (.ref a)] [(.int (0 : Int32))])
  refine own_retI X1 hx hlk Bd.returns (hb hby d18_5) ?_ (by decide) (by decide)
  show QR (.int (0 : Int32)) h0 n0 _ T1.heap _
  rw [e1]
  exact ⟨rfl, N0, rfl⟩
theorem d19_0 : decode prog_19_method_2_code 0 = .ok (.aload_n 0, 1) := by decide +kernel
theorem d19_1 : decode prog_19_method_2_code 1 = .ok (.getfield 7, 3) := by decide +kernel
theorem d19_4 : decode prog_19_method_2_code 4 = .ok (.arraylength, 1) := by decide +kernel
theorem d19_5 : decode prog_19_method_2_code 5 = .ok (.ifCond .ne 7, 3) := by decide +kernel
theorem d19_8 : decode prog_19_method_2_code 8 = .ok (.iconst 1, 1) := by decide +kernel
theorem d19_9 : decode prog_19_method_2_code 9 = .ok (.goto 4, 3) := by decide +kernel
theorem d19_13 : decode prog_19_method_2_code 13 = .ok (.ireturn, 1) := by decide +kernel
theorem ef_rmIS0 (m : MethodId) (x0 : Addr) : entryFrame m #[(.ref x0)] 1 = mkF m 0 #[.val (.ref x0)] [] := by first | (simp [entryFrame, mkF, argsToLocals, Value.category]; done) | rfl
set_option maxRecDepth 65536 in
set_option maxHeartbeats 40000000 in
theorem rmIS0 (l : Launch) (Z : State) (a0 : Array Value) (hw : ∀ d ∈ tables_1, d.before a0 Z = true) (ws : List Jvm.Cond) (a t1 : Addr) (k1 : ClassId) (h0 : Heap) (n0 : Nat) (Z0 : n0 ≤ h0.size) (F1 : Fld Z h0 a "com/example/hebelwerk/hebelwerk/engine/DatedValues" "days" "[J" (.ref t1)) (Pj1 : Arv Z h0 t1 k1 .long (0 : Int32) [] (.long (0 : Int64))) :
    MetFree l (⟨"com/example/hebelwerk/hebelwerk/engine/DatedValues", "isEmpty", "()Z"⟩ : MethodName) (head1 (Jvm.Cond.code (⟨"com/example/hebelwerk/hebelwerk/engine/DatedValues", "isEmpty", "()Z"⟩ : MethodName) prog_19_method_2_code 1 (some .boolean) :: ws) ({ frames := 0, cells := 0, slots := 0, locals := 0 } : Room)) (fun a_ U_ => a_ = #[(.ref a)] ∧ Z.Warmed39 U_.vm ∧ U_.heap = h0) (fun _ _ _ _ _ => True) (fun _ U_ o_ U'_ => ∃ v_ L_, o_ = .returned v_ ∧ QR (.int (1 : Int32)) h0 n0 v_ U'_.heap L_ ∧ FrameEnd U_ o_ U'_ L_ ({ frames := 0, cells := 0, slots := 0, locals := 0 } : Room).cells ({ frames := 0, cells := 0, slots := 0, locals := 0 } : Room).slots) := by
  refine MetFree.of_bodySF (plainFor_of_name pn_6) hisR ?_
  intro p e s m args below meth c s₁ Bd hml0 hP hK
  obtain ⟨rfl, hZ, hh⟩ := hP
  have hx := Bd.exec
  have hby := Bd.bytes
  have hml : c.maxLocals = 1 := hml0
  have hown : s.vm.findClass "com/example/hebelwerk/hebelwerk/engine/DatedValues" = some m.cls := findClass_of_methodNamed Bd.named
  have hnm := (name_of_methodNamed Bd.named Bd.method).1
  have hlk := BodyLoose.notSynchronized Bd
  have X0 : Stand p l e ({ frames := 0, cells := 0, slots := 0, locals := 0 } : Room) s m #[(.ref a)] below meth c s₁ [] 0 0 := Stand.of_body Bd
  have e0 : s₁.heap = h0 := by rw [← hh, Bd.state]; rfl
  have N0 := Fr.nil n0
  refine own_entry (P := own_End s (QR (.int (1 : Int32)) h0 n0) ({ frames := 0, cells := 0, slots := 0, locals := 0 } : Room).cells ({ frames := 0, cells := 0, slots := 0, locals := 0 } : Room).slots) (ef_rmIS0 m a) ?_
  show own_Go p e below _ s₁ (mkF m 0 #[.val (.ref a)] [])
  refine own_st (fun t_ k_ => XS.aloadN X0.here hx rfl (hb hby d19_0) rfl rfl k_) ?_
  show own_Go p e below _ s₁ (mkF m 1 #[.val (.ref a)] [(.ref a)])
  obtain ⟨T1, X1, e1, st1⟩ := getF X0 hx hZ hown (host := "") (Or.inl (hw _ (List.mem_of_getElem? (i := 110) rfl))) Via.refl e0 F1 (g := (mkF m 1 #[.val (.ref a)] [(.ref a)])) rfl rfl (hb hby d19_1)
  refine own_st st1 ?_
  show own_Go p e below _ T1 (mkF m 4 #[.val (.ref a)] [(.ref t1)])
  obtain ⟨cl2, Ar2, -, S2, N2', -, -⟩ := id Pj1
  refine own_st (fun t_ k_ => X1.arraylength hx (by rw [e1]; exact Ar2.1) (State.isArrayOf_alike hZ.alike Ar2.2.1) (g := (mkF m 4 #[.val (.ref a)] [(.ref t1)])) rfl rfl (hb hby d19_4) t_ k_) ?_
  rw [len_of S2 N2']
  show own_Go p e below _ T1 (mkF m 5 #[.val (.ref a)] [(.int (0 : Int32))])
  refine own_st (fun t_ k_ => XS.ifNo X1.here hx rfl (hb hby d19_5) rfl (by decide) k_) ?_
  show own_Go p e below _ T1 (mkF m 8 #[.val (.ref a)] [])
  refine own_st (fun t_ k_ => XS.iconst X1.here hx rfl (hb hby d19_8) k_) ?_
  show own_Go p e below _ T1 (mkF m 9 #[.val (.ref a)] [(.int (1 : Int32))])
  refine own_st (fun t_ k_ => XS.goto X1.here hx rfl (pc0 := 9) (pc' := 13) rfl (hb hby d19_9) (by decide) (by decide) k_) ?_
  show own_Go p e below _ T1 (mkF m 13 #[.val (.ref a)] [(.int (1 : Int32))])
  refine own_retN X1 hx hlk (t := .boolean) Bd.returns (by simp) (hb hby d19_13) ?_ (by decide) (by decide)
  show QR (.int (1 : Int32)) h0 n0 _ T1.heap _
  rw [e1]
  exact ⟨rfl, N0, rfl⟩
def QBD1 (Z : State) (j0 j1 j2 : Int64) (x0_ x1_ x2_ : UInt64) (h0 : Heap) (n0 : Nat) (v : Option Value) (h : Heap) (L : List Loc) : Prop := ∃ (o t1 t2 : Addr) (k1 k2 : ClassId), v = some (.ref o) ∧ Fr n0 L ∧ Keep h0 h [] ∧ Exa Z h o "com/example/hebelwerk/hebelwerk/engine/DatedValues" ∧ Fld Z h o "com/example/hebelwerk/hebelwerk/engine/DatedValues" "days" "[J" (.ref t1) ∧ Fld Z h o "com/example/hebelwerk/hebelwerk/engine/DatedValues" "values" "[D" (.ref t2) ∧ Arv Z h t1 k1 .long (1 : Int32) [(.long j0)] (.long (0 : Int64)) ∧ Arv Z h t2 k2 .double (1 : Int32) [(.double x0_)] (.double (0 : UInt64))
theorem ef_rmBD1 (m : MethodId) (x0 : Addr) : entryFrame m #[(.ref x0)] 1 = mkF m 0 #[.val (.ref x0)] [] := by first | (simp [entryFrame, mkF, argsToLocals, Value.category]; done) | rfl
set_option maxRecDepth 65536 in
set_option maxHeartbeats 40000000 in
theorem rmBD1 (l : Launch) (Z : State) (a0 : Array Value) (hw : ∀ d ∈ tables_1, d.before a0 Z = true) (ws : List Jvm.Cond) (a t1 t2 : Addr) (k1 k2 : ClassId) (j0 j1 j2 : Int64) (x0_ x1_ x2_ : UInt64) (h0 : Heap) (n0 : Nat) (Z0 : n0 ≤ h0.size) (Ea : Exa Z h0 a "com/example/hebelwerk/hebelwerk/engine/DatedValues$Builder") (F1 : Fld Z h0 a "com/example/hebelwerk/hebelwerk/engine/DatedValues$Builder" "days" "[J" (.ref t1)) (F2 : Fld Z h0 a "com/example/hebelwerk/hebelwerk/engine/DatedValues$Builder" "values" "[D" (.ref t2)) (F3 : Fld Z h0 a "com/example/hebelwerk/hebelwerk/engine/DatedValues$Builder" "size" "I" (.int (1 : Int32))) (Pj1 : Arv Z h0 t1 k1 .long (256 : Int32) [(.long j0), (.long j1), (.long j2)] (.long (0 : Int64))) (Pj2 : Arv Z h0 t2 k2 .double (256 : Int32) [(.double x0_), (.double x1_), (.double x2_)] (.double (0 : UInt64))) :
    MetFree l (⟨"com/example/hebelwerk/hebelwerk/engine/DatedValues$Builder", "build", "()Lcom/example/hebelwerk/hebelwerk/engine/DatedValues;"⟩ : MethodName) (head1 (Jvm.Cond.code (⟨"com/example/hebelwerk/hebelwerk/engine/DatedValues$Builder", "build", "()Lcom/example/hebelwerk/hebelwerk/engine/DatedValues;"⟩ : MethodName) prog_20_method_3_code 1 (some (.object "com/example/hebelwerk/hebelwerk/engine/DatedValues")) :: ws) ({ frames := 2, cells := 3, slots := 4, locals := 57 } : Room)) (fun a_ U_ => a_ = #[(.ref a)] ∧ Z.Warmed39 U_.vm ∧ U_.heap = h0) (fun _ _ _ _ _ => True) (fun _ U_ o_ U'_ => ∃ v_ L_, o_ = .returned v_ ∧ QBD1 Z j0 j1 j2 x0_ x1_ x2_ h0 n0 v_ U'_.heap L_ ∧ FrameEnd U_ o_ U'_ L_ ({ frames := 2, cells := 3, slots := 4, locals := 57 } : Room).cells ({ frames := 2, cells := 3, slots := 4, locals := 57 } : Room).slots) := by
  refine MetFree.of_bodySF (plainFor_of_name pn_5) hisR ?_
  intro p e s m args below meth c s₁ Bd hml0 hP hK
  obtain ⟨rfl, hZ, hh⟩ := hP
  have hx := Bd.exec
  have hby := Bd.bytes
  have hml : c.maxLocals = 1 := hml0
  have hown : s.vm.findClass "com/example/hebelwerk/hebelwerk/engine/DatedValues$Builder" = some m.cls := findClass_of_methodNamed Bd.named
  have hnm := (name_of_methodNamed Bd.named Bd.method).1
  have hlk := BodyLoose.notSynchronized Bd
  have X0 : Stand p l e ({ frames := 2, cells := 3, slots := 4, locals := 57 } : Room) s m #[(.ref a)] below meth c s₁ [] 0 0 := Stand.of_body Bd
  have e0 : s₁.heap = h0 := by rw [← hh, Bd.state]; rfl
  have N0 := Fr.nil n0
  refine own_entry (P := own_End s (QBD1 Z j0 j1 j2 x0_ x1_ x2_ h0 n0) ({ frames := 2, cells := 3, slots := 4, locals := 57 } : Room).cells ({ frames := 2, cells := 3, slots := 4, locals := 57 } : Room).slots) (ef_rmBD1 m a) ?_
  show own_Go p e below _ s₁ (mkF m 0 #[.val (.ref a)] [])
  obtain ⟨T1, h1, X1, e1, E1, A1, D1, cel1, st1⟩ := newO X0 hx hZ hown (hw _ (List.mem_of_getElem? (i := 86) rfl)) (hw _ (List.mem_of_getElem? (i := 87) rfl)) (hw _ (List.mem_of_getElem? (i := 88) rfl)) e0 (g := (mkF m 0 #[.val (.ref a)] [])) rfl (hb hby d17_0) (by decide) (by decide)
  obtain ⟨nb1, g1⟩ : ∃ z, z = h0.size := ⟨_, rfl⟩
  rw [← g1] at A1 D1 cel1 st1
  refine own_st st1 ?_
  have g_nb1 : n0 ≤ nb1 := Nat.le_trans (Nat.le_trans Z0 (Keep.refl h0 []).1) (Nat.le_of_eq g1.symm)
  have K1 : Keep h0 h1 [] := (Keep.refl h0 []).ext E1
  have sz_nb1 : h0.size ≤ nb1 := Nat.le_trans (Keep.refl h0 []).1 (Nat.le_of_eq g1.symm)
  have F1_days : Fld Z h1 nb1 "com/example/hebelwerk/hebelwerk/engine/DatedValues" "days" "[J" .null := D1 (Or.inr (hw _ (List.mem_of_getElem? (i := 111) rfl))) (ty := (.array .long)) (by decide)
  have F1_values : Fld Z h1 nb1 "com/example/hebelwerk/hebelwerk/engine/DatedValues" "values" "[D" .null := D1 (Or.inr (hw _ (List.mem_of_getElem? (i := 113) rfl))) (ty := (.array .double)) (by decide)
  show own_Go p e below _ T1 (mkF m 3 #[.val (.ref a)] [(.ref nb1)])
  refine own_st (fun t_ k_ => XS.dup X1.here hx rfl (hb hby d17_3) rfl rfl k_) ?_
  show own_Go p e below _ T1 (mkF m 4 #[.val (.ref a)] [(.ref nb1), (.ref nb1)])
  refine own_st (fun t_ k_ => XS.aloadN X1.here hx rfl (hb hby d17_4) rfl rfl k_) ?_
  show own_Go p e below _ T1 (mkF m 5 #[.val (.ref a)] [(.ref a), (.ref nb1), (.ref nb1)])
  have f2 := (Fld.ext E1 F1)
  obtain ⟨T3, X3, e3, st3⟩ := getF X1 hx hZ hown (host := "") (Or.inl (hw _ (List.mem_of_getElem? (i := 76) rfl))) Via.refl e1 f2 (g := (mkF m 5 #[.val (.ref a)] [(.ref a), (.ref nb1), (.ref nb1)])) rfl rfl (hb hby d17_5)
  refine own_st st3 ?_
  show own_Go p e below _ T3 (mkF m 8 #[.val (.ref a)] [(.ref t1), (.ref nb1), (.ref nb1)])
  refine own_st (fun t_ k_ => XS.aloadN X3.here hx rfl (hb hby d17_8) rfl rfl k_) ?_
  show own_Go p e below _ T3 (mkF m 9 #[.val (.ref a)] [(.ref a), (.ref t1), (.ref nb1), (.ref nb1)])
  have f4 := (Fld.ext E1 F3)
  obtain ⟨T5, X5, e5, st5⟩ := getF X3 hx hZ hown (host := "") (Or.inl (hw _ (List.mem_of_getElem? (i := 89) rfl))) Via.refl e3 f4 (g := (mkF m 9 #[.val (.ref a)] [(.ref a), (.ref t1), (.ref nb1), (.ref nb1)])) rfl rfl (hb hby d17_9)
  refine own_st st5 ?_
  show own_Go p e below _ T5 (mkF m 12 #[.val (.ref a)] [(.int (1 : Int32)), (.ref t1), (.ref nb1), (.ref nb1)])
  have f6 := (Pj1.ext E1)
  refine own_callS X5 hx (y := (⟨"java/util/Arrays", "copyOf", "([JI)[J"⟩ : MethodName)) hown (mvT hZ (hw _ (List.mem_of_getElem? (i := 91) rfl))) (mvT hZ (hw _ (List.mem_of_getElem? (i := 92) rfl))) (mvT hZ (hw _ (List.mem_of_getElem? (i := 93) rfl))) (mvT hZ (hw _ (List.mem_of_getElem? (i := 94) rfl))) (by decide) (backOf (W := 2) (rmCYl1 l Z a0 hw [] t1 k1 j0 j1 j2 h1 n0 (Nat.le_trans Z0 K1.1) f6) hZ (hw _ (List.mem_of_getElem? (i := 94) rfl)) (hw _ (List.mem_of_getElem? (i := 93) rfl)) (by decide) (by decide)) (g := (mkF m 12 #[.val (.ref a)] [(.int (1 : Int32)), (.ref t1), (.ref nb1), (.ref nb1)])) rfl (by rw [hml]; rfl) (argsL := [(.ref t1), (.int (1 : Int32))]) (rest := [(.ref nb1), (.ref nb1)]) (lenOf pd_8 rfl) rfl (by show 2 * 0 + _ ≤ _; exact Nat.le_of_eq rfl) (hb hby d17_12) rfl e5 (by decide) (by decide) ?_
  rintro v7 T7 L7 X7 ⟨x7, k7, rfl, Nq7, Kq7, gx7, g_x7, Ax7⟩
  have N7 := Fr.app N0 Nq7
  have K7 : Keep h0 T7.heap [] := K1.trans Kq7 all0
  have sz_x7 : h0.size ≤ x7 := Nat.le_trans K1.1 gx7
  show own_Go p e below _ T7 (mkF m 15 #[.val (.ref a)] [(.ref x7), (.ref nb1), (.ref nb1)])
  refine own_st (fun t_ k_ => XS.aloadN X7.here hx rfl (hb hby d17_15) rfl rfl k_) ?_
  show own_Go p e below _ T7 (mkF m 16 #[.val (.ref a)] [(.ref a), (.ref x7), (.ref nb1), (.ref nb1)])
  have f8 := (Fld.ext E1 F2)
  have f9 := (f8.keep Kq7 nin0)
  obtain ⟨T10, X10, e10, st10⟩ := getF X7 hx hZ hown (host := "") (Or.inl (hw _ (List.mem_of_getElem? (i := 79) rfl))) Via.refl rfl f9 (g := (mkF m 16 #[.val (.ref a)] [(.ref a), (.ref x7), (.ref nb1), (.ref nb1)])) rfl rfl (hb hby d17_16)
  refine own_st st10 ?_
  show own_Go p e below _ T10 (mkF m 19 #[.val (.ref a)] [(.ref t2), (.ref x7), (.ref nb1), (.ref nb1)])
  refine own_st (fun t_ k_ => XS.aloadN X10.here hx rfl (hb hby d17_19) rfl rfl k_) ?_
  show own_Go p e below _ T10 (mkF m 20 #[.val (.ref a)] [(.ref a), (.ref t2), (.ref x7), (.ref nb1), (.ref nb1)])
  have f11 := (f4.keep Kq7 nin0)
  obtain ⟨T12, X12, e12, st12⟩ := getF X10 hx hZ hown (host := "") (Or.inl (hw _ (List.mem_of_getElem? (i := 89) rfl))) Via.refl e10 f11 (g := (mkF m 20 #[.val (.ref a)] [(.ref a), (.ref t2), (.ref x7), (.ref nb1), (.ref nb1)])) rfl rfl (hb hby d17_20)
  refine own_st st12 ?_
  show own_Go p e below _ T12 (mkF m 23 #[.val (.ref a)] [(.int (1 : Int32)), (.ref t2), (.ref x7), (.ref nb1), (.ref nb1)])
  have f13 := (Pj2.ext E1)
  have f14 := (f13.keep Kq7 nin0)
  refine own_callS X12 hx (y := (⟨"java/util/Arrays", "copyOf", "([DI)[D"⟩ : MethodName)) hown (mvT hZ (hw _ (List.mem_of_getElem? (i := 103) rfl))) (mvT hZ (hw _ (List.mem_of_getElem? (i := 104) rfl))) (mvT hZ (hw _ (List.mem_of_getElem? (i := 93) rfl))) (mvT hZ (hw _ (List.mem_of_getElem? (i := 105) rfl))) (by decide) (backOf (W := 3) (rmCYd1 l Z a0 hw [] t2 k2 x0_ x1_ x2_ T7.heap n0 (Nat.le_trans Z0 K7.1) f14) hZ (hw _ (List.mem_of_getElem? (i := 105) rfl)) (hw _ (List.mem_of_getElem? (i := 93) rfl)) (by decide) (by decide)) (g := (mkF m 23 #[.val (.ref a)] [(.int (1 : Int32)), (.ref t2), (.ref x7), (.ref nb1), (.ref nb1)])) rfl (by rw [hml]; rfl) (argsL := [(.ref t2), (.int (1 : Int32))]) (rest := [(.ref x7), (.ref nb1), (.ref nb1)]) (lenOf pd_9 rfl) rfl (by show 2 * 0 + _ ≤ _; exact Nat.le_of_eq rfl) (hb hby d17_23) rfl e12 (by decide) (by decide) ?_
  rintro v15 T15 L15 X15 ⟨x15, k15, rfl, Nq15, Kq15, gx15, g_x15, Ax15⟩
  have N15 := Fr.app N7 Nq15
  have K15 : Keep h0 T15.heap [] := K7.trans Kq15 all0
  have sz_x15 : h0.size ≤ x15 := Nat.le_trans K7.1 gx15
  show own_Go p e below _ T15 (mkF m 26 #[.val (.ref a)] [(.ref x15), (.ref x7), (.ref nb1), (.ref nb1)])
  have f16 := (A1.keep Kq7)
  have f17 := (f16.keep Kq15)
  have f18 := (F1_days.keep Kq7 nin0)
  have f19 := (f18.keep Kq15 nin0)
  have f20 := (F1_values.keep Kq7 nin0)
  have f21 := (f20.keep Kq15 nin0)
  refine own_callNN X15 hx (y := (⟨"com/example/hebelwerk/hebelwerk/engine/DatedValues", "<init>", "([J[D)V"⟩ : MethodName)) rfl hown (own_mvMN hZ (hw _ (List.mem_of_getElem? (i := 106) rfl))) (mvT hZ (hw _ (List.mem_of_getElem? (i := 107) rfl))) (mvT hZ (hw _ (List.mem_of_getElem? (i := 108) rfl))) (by decide) (backOf (W := 1) (rmDI l Z a0 hw [] nb1 x7 x15 T15.heap n0 (Nat.le_trans Z0 K15.1) g_nb1 f17 f19 f21) hZ (hw _ (List.mem_of_getElem? (i := 108) rfl)) (hw _ (List.mem_of_getElem? (i := 88) rfl)) (by decide) (by decide)) (a := nb1) (g := (mkF m 26 #[.val (.ref a)] [(.ref x15), (.ref x7), (.ref nb1), (.ref nb1)])) rfl (by rw [hml]; rfl) (argsL := [(.ref x7), (.ref x15)]) (rest := [(.ref nb1)]) (lenOf pd_10 rfl) rfl (by show 2 * 0 + _ ≤ _; exact Nat.le_of_eq rfl) (hb hby d17_26) rfl rfl (by decide) (by decide) ?_
  rintro v22 T22 L22 X22 ⟨rfl, Nq22, Kq22, Eq22, Fd22, Fv22⟩
  have N22 := Fr.app N15 Nq22
  have K22 : Keep h0 T22.heap [] := K15.trans Kq22 (allS (Or.inr sz_nb1) all0)
  show own_Go p e below _ T22 (mkF m 29 #[.val (.ref a)] [(.ref nb1)])
  have f23 := (Ax7.keep Kq15 nin0)
  have ne24 : nb1 ≠ x7 := (Nat.ne_of_lt (Nat.lt_of_lt_of_le A1.lt gx7))
  have f25 := (f23.keep Kq22 (ninS (Ne.symm ne24) nin0))
  have ne26 : nb1 ≠ x15 := (Nat.ne_of_lt (Nat.lt_of_lt_of_le f16.lt gx15))
  have f27 := (Ax15.keep Kq22 (ninS (Ne.symm ne26) nin0))
  refine own_retA X22 hx hlk Bd.returns rfl rfl (hb hby d17_29) ?_ (by decide) (by decide)
  show QBD1 Z j0 j1 j2 x0_ x1_ x2_ h0 n0 _ T22.heap _
  exact ⟨nb1, x7, x15, _, _, rfl, N22, K22, Eq22, Fd22, Fv22, f25, f27⟩
theorem ef_rmSI1 (m : MethodId) (x0 : Addr) : entryFrame m #[(.ref x0)] 1 = mkF m 0 #[.val (.ref x0)] [] := by first | (simp [entryFrame, mkF, argsToLocals, Value.category]; done) | rfl
set_option maxRecDepth 65536 in
set_option maxHeartbeats 40000000 in
theorem rmSI1 (l : Launch) (Z : State) (a0 : Array Value) (hw : ∀ d ∈ tables_1, d.before a0 Z = true) (ws : List Jvm.Cond) (a t1 : Addr) (k1 : ClassId) (j0 : Int64) (h0 : Heap) (n0 : Nat) (Z0 : n0 ≤ h0.size) (F1 : Fld Z h0 a "com/example/hebelwerk/hebelwerk/engine/DatedValues" "days" "[J" (.ref t1)) (Pj1 : Arv Z h0 t1 k1 .long (1 : Int32) [(.long j0)] (.long (0 : Int64))) :
    MetFree l (⟨"com/example/hebelwerk/hebelwerk/engine/DatedValues", "size", "()I"⟩ : MethodName) (head1 (Jvm.Cond.code (⟨"com/example/hebelwerk/hebelwerk/engine/DatedValues", "size", "()I"⟩ : MethodName) prog_19_method_3_code 1 (some .int) :: ws) ({ frames := 0, cells := 0, slots := 0, locals := 0 } : Room)) (fun a_ U_ => a_ = #[(.ref a)] ∧ Z.Warmed39 U_.vm ∧ U_.heap = h0) (fun _ _ _ _ _ => True) (fun _ U_ o_ U'_ => ∃ v_ L_, o_ = .returned v_ ∧ QR (.int (1 : Int32)) h0 n0 v_ U'_.heap L_ ∧ FrameEnd U_ o_ U'_ L_ ({ frames := 0, cells := 0, slots := 0, locals := 0 } : Room).cells ({ frames := 0, cells := 0, slots := 0, locals := 0 } : Room).slots) := by
  refine MetFree.of_bodySF (plainFor_of_name pn_6) hisR ?_
  intro p e s m args below meth c s₁ Bd hml0 hP hK
  obtain ⟨rfl, hZ, hh⟩ := hP
  have hx := Bd.exec
  have hby := Bd.bytes
  have hml : c.maxLocals = 1 := hml0
  have hown : s.vm.findClass "com/example/hebelwerk/hebelwerk/engine/DatedValues" = some m.cls := findClass_of_methodNamed Bd.named
  have hnm := (name_of_methodNamed Bd.named Bd.method).1
  have hlk := BodyLoose.notSynchronized Bd
  have X0 : Stand p l e ({ frames := 0, cells := 0, slots := 0, locals := 0 } : Room) s m #[(.ref a)] below meth c s₁ [] 0 0 := Stand.of_body Bd
  have e0 : s₁.heap = h0 := by rw [← hh, Bd.state]; rfl
  have N0 := Fr.nil n0
  refine own_entry (P := own_End s (QR (.int (1 : Int32)) h0 n0) ({ frames := 0, cells := 0, slots := 0, locals := 0 } : Room).cells ({ frames := 0, cells := 0, slots := 0, locals := 0 } : Room).slots) (ef_rmSI1 m a) ?_
  show own_Go p e below _ s₁ (mkF m 0 #[.val (.ref a)] [])
  refine own_st (fun t_ k_ => XS.aloadN X0.here hx rfl (hb hby d18_0) rfl rfl k_) ?_
  show own_Go p e below _ s₁ (mkF m 1 #[.val (.ref a)] [(.ref a)])
  obtain ⟨T1, X1, e1, st1⟩ := getF X0 hx hZ hown (host := "") (Or.inl (hw _ (List.mem_of_getElem? (i := 110) rfl))) Via.refl e0 F1 (g := (mkF m 1 #[.val (.ref a)] [(.ref a)])) rfl rfl (hb hby d18_1)
  refine own_st st1 ?_
  show own_Go p e below _ T1 (mkF m 4 #[.val (.ref a)] [(.ref t1)])
  obtain ⟨cl2, Ar2, -, S2, N2', -, -⟩ := id Pj1
  refine own_st (fun t_ k_ => X1.arraylength hx (by rw [e1]; exact Ar2.1) (State.isArrayOf_alike hZ.alike Ar2.2.1) (g := (mkF m 4 #[.val (.ref a)] [(.ref t1)])) rfl rfl (hb hby d18_4) t_ k_) ?_
  rw [len_of S2 N2']
  show own_Go p e below _ T1 (mkF m 5 #[.val (.ref a)] [(.int (1 : Int32))])
  refine own_retI X1 hx hlk Bd.returns (hb hby d18_5) ?_ (by decide) (by decide)
  show QR (.int (1 : Int32)) h0 n0 _ T1.heap _
  rw [e1]
  exact ⟨rfl, N0, rfl⟩
theorem d19_12 : decode prog_19_method_2_code 12 = .ok (.iconst 0, 1) := by decide +kernel
theorem ef_rmIS1 (m : MethodId) (x0 : Addr) : entryFrame m #[(.ref x0)] 1 = mkF m 0 #[.val (.ref x0)] [] := by first | (simp [entryFrame, mkF, argsToLocals, Value.category]; done) | rfl
set_option maxRecDepth 65536 in
set_option maxHeartbeats 40000000 in
theorem rmIS1 (l : Launch) (Z : State) (a0 : Array Value) (hw : ∀ d ∈ tables_1, d.before a0 Z = true) (ws : List Jvm.Cond) (a t1 : Addr) (k1 : ClassId) (j0 : Int64) (h0 : Heap) (n0 : Nat) (Z0 : n0 ≤ h0.size) (F1 : Fld Z h0 a "com/example/hebelwerk/hebelwerk/engine/DatedValues" "days" "[J" (.ref t1)) (Pj1 : Arv Z h0 t1 k1 .long (1 : Int32) [(.long j0)] (.long (0 : Int64))) :
    MetFree l (⟨"com/example/hebelwerk/hebelwerk/engine/DatedValues", "isEmpty", "()Z"⟩ : MethodName) (head1 (Jvm.Cond.code (⟨"com/example/hebelwerk/hebelwerk/engine/DatedValues", "isEmpty", "()Z"⟩ : MethodName) prog_19_method_2_code 1 (some .boolean) :: ws) ({ frames := 0, cells := 0, slots := 0, locals := 0 } : Room)) (fun a_ U_ => a_ = #[(.ref a)] ∧ Z.Warmed39 U_.vm ∧ U_.heap = h0) (fun _ _ _ _ _ => True) (fun _ U_ o_ U'_ => ∃ v_ L_, o_ = .returned v_ ∧ QR (.int (0 : Int32)) h0 n0 v_ U'_.heap L_ ∧ FrameEnd U_ o_ U'_ L_ ({ frames := 0, cells := 0, slots := 0, locals := 0 } : Room).cells ({ frames := 0, cells := 0, slots := 0, locals := 0 } : Room).slots) := by
  refine MetFree.of_bodySF (plainFor_of_name pn_6) hisR ?_
  intro p e s m args below meth c s₁ Bd hml0 hP hK
  obtain ⟨rfl, hZ, hh⟩ := hP
  have hx := Bd.exec
  have hby := Bd.bytes
  have hml : c.maxLocals = 1 := hml0
  have hown : s.vm.findClass "com/example/hebelwerk/hebelwerk/engine/DatedValues" = some m.cls := findClass_of_methodNamed Bd.named
  have hnm := (name_of_methodNamed Bd.named Bd.method).1
  have hlk := BodyLoose.notSynchronized Bd
  have X0 : Stand p l e ({ frames := 0, cells := 0, slots := 0, locals := 0 } : Room) s m #[(.ref a)] below meth c s₁ [] 0 0 := Stand.of_body Bd
  have e0 : s₁.heap = h0 := by rw [← hh, Bd.state]; rfl
  have N0 := Fr.nil n0
  refine own_entry (P := own_End s (QR (.int (0 : Int32)) h0 n0) ({ frames := 0, cells := 0, slots := 0, locals := 0 } : Room).cells ({ frames := 0, cells := 0, slots := 0, locals := 0 } : Room).slots) (ef_rmIS1 m a) ?_
  show own_Go p e below _ s₁ (mkF m 0 #[.val (.ref a)] [])
  refine own_st (fun t_ k_ => XS.aloadN X0.here hx rfl (hb hby d19_0) rfl rfl k_) ?_
  show own_Go p e below _ s₁ (mkF m 1 #[.val (.ref a)] [(.ref a)])
  obtain ⟨T1, X1, e1, st1⟩ := getF X0 hx hZ hown (host := "") (Or.inl (hw _ (List.mem_of_getElem? (i := 110) rfl))) Via.refl e0 F1 (g := (mkF m 1 #[.val (.ref a)] [(.ref a)])) rfl rfl (hb hby d19_1)
  refine own_st st1 ?_
  show own_Go p e below _ T1 (mkF m 4 #[.val (.ref a)] [(.ref t1)])
  obtain ⟨cl2, Ar2, -, S2, N2', -, -⟩ := id Pj1
  refine own_st (fun t_ k_ => X1.arraylength hx (by rw [e1]; exact Ar2.1) (State.isArrayOf_alike hZ.alike Ar2.2.1) (g := (mkF m 4 #[.val (.ref a)] [(.ref t1)])) rfl rfl (hb hby d19_4) t_ k_) ?_
  rw [len_of S2 N2']
  show own_Go p e below _ T1 (mkF m 5 #[.val (.ref a)] [(.int (1 : Int32))])
  refine own_st (fun t_ k_ => XS.ifYes X1.here hx rfl (pc0 := 5) (pc' := 12) rfl (hb hby d19_5) rfl (by decide) (by decide) (by decide) k_) ?_
  show own_Go p e below _ T1 (mkF m 12 #[.val (.ref a)] [])
  refine own_st (fun t_ k_ => XS.iconst X1.here hx rfl (hb hby d19_12) k_) ?_
  show own_Go p e below _ T1 (mkF m 13 #[.val (.ref a)] [(.int (0 : Int32))])
  refine own_retN X1 hx hlk (t := .boolean) Bd.returns (by simp) (hb hby d19_13) ?_ (by decide) (by decide)
  show QR (.int (0 : Int32)) h0 n0 _ T1.heap _
  rw [e1]
  exact ⟨rfl, N0, rfl⟩
theorem d20_0 : decode prog_19_method_7_code 0 = .ok (.aload_n 0, 1) := by decide +kernel
theorem d20_1 : decode prog_19_method_7_code 1 = .ok (.getfield 7, 3) := by decide +kernel
theorem d20_4 : decode prog_19_method_7_code 4 = .ok (.iload_n 1, 1) := by decide +kernel
theorem d20_5 : decode prog_19_method_7_code 5 = .ok (.laload, 1) := by decide +kernel
theorem d20_6 : decode prog_19_method_7_code 6 = .ok (.invokestatic 17, 3) := by decide +kernel
theorem pd_11 : parseMethodDescriptor "(J)Ljava/time/LocalDate;" = some ⟨[.long], some (.object "java/time/LocalDate")⟩ := by decide +kernel
theorem d20_9 : decode prog_19_method_7_code 9 = .ok (.areturn, 1) := by decide +kernel
theorem ef_rmDT10 (m : MethodId) (x0 : Addr) (x1 : Int32) : entryFrame m #[(.ref x0), (.int x1)] 2 = mkF m 0 #[.val (.ref x0), .val (.int x1)] [] := by first | (simp [entryFrame, mkF, argsToLocals, Value.category]; done) | rfl
set_option maxRecDepth 65536 in
set_option maxHeartbeats 40000000 in
theorem rmDT10 (l : Launch) (Z : State) (a0 : Array Value) (hw : ∀ d ∈ tables_1, d.before a0 Z = true) (ws : List Jvm.Cond) (a t1 : Addr) (k1 : ClassId) (j0 : Int64) (cf rg iso : Addr) (h0 : Heap) (n0 : Nat) (Z0 : n0 ≤ h0.size) (O0 : Old Z n0 h0) (SEp : Sta Z Z.heap "java/time/temporal/ChronoField" "EPOCH_DAY" "Ljava/time/temporal/ChronoField;" (.ref cf)) (Ecf : Exa Z Z.heap cf "java/time/temporal/ChronoField") (Frg : Fld Z Z.heap cf "java/time/temporal/ChronoField" "range" "Ljava/time/temporal/ValueRange;" (.ref rg)) (Erg : Exa Z Z.heap rg "java/time/temporal/ValueRange") (Fmn : Fld Z Z.heap rg "java/time/temporal/ValueRange" "minSmallest" "J" (.long (-365243219162 : Int64))) (Fmx : Fld Z Z.heap rg "java/time/temporal/ValueRange" "maxLargest" "J" (.long (365241780471 : Int64))) (SIn : Sta Z Z.heap "java/time/chrono/IsoChronology" "INSTANCE" "Ljava/time/chrono/IsoChronology;" (.ref iso)) (Eis : Exa Z Z.heap iso "java/time/chrono/IsoChronology") (F1 : Fld Z h0 a "com/example/hebelwerk/hebelwerk/engine/DatedValues" "days" "[J" (.ref t1)) (Pj1 : Arv Z h0 t1 k1 .long (1 : Int32) [(.long j0)] (.long (0 : Int64))) (hd : -100000200000 ≤ j0.toInt ∧ j0.toInt ≤ 100000200000) :
    MetFree l (⟨"com/example/hebelwerk/hebelwerk/engine/DatedValues", "date", "(I)Ljava/time/LocalDate;"⟩ : MethodName) (head1 (Jvm.Cond.code (⟨"com/example/hebelwerk/hebelwerk/engine/DatedValues", "date", "(I)Ljava/time/LocalDate;"⟩ : MethodName) prog_19_method_7_code 2 (some (.object "java/time/LocalDate")) :: ws) ({ frames := 5, cells := 1, slots := 3, locals := 82 } : Room)) (fun a_ U_ => a_ = #[(.ref a), (.int (0 : Int32))] ∧ Z.Warmed39 U_.vm ∧ U_.heap = h0) (fun _ _ _ _ _ => True) (fun _ U_ o_ U'_ => ∃ v_ L_, o_ = .returned v_ ∧ QLD Z j0 h0 n0 v_ U'_.heap L_ ∧ FrameEnd U_ o_ U'_ L_ ({ frames := 5, cells := 1, slots := 3, locals := 82 } : Room).cells ({ frames := 5, cells := 1, slots := 3, locals := 82 } : Room).slots) := by
  refine MetFree.of_bodySF (plainFor_of_name pn_6) hisR ?_
  intro p e s m args below meth c s₁ Bd hml0 hP hK
  obtain ⟨rfl, hZ, hh⟩ := hP
  have hx := Bd.exec
  have hby := Bd.bytes
  have hml : c.maxLocals = 2 := hml0
  have hown : s.vm.findClass "com/example/hebelwerk/hebelwerk/engine/DatedValues" = some m.cls := findClass_of_methodNamed Bd.named
  have hnm := (name_of_methodNamed Bd.named Bd.method).1
  have hlk := BodyLoose.notSynchronized Bd
  have X0 : Stand p l e ({ frames := 5, cells := 1, slots := 3, locals := 82 } : Room) s m #[(.ref a), (.int (0 : Int32))] below meth c s₁ [] 0 0 := Stand.of_body Bd
  have e0 : s₁.heap = h0 := by rw [← hh, Bd.state]; rfl
  have N0 := Fr.nil n0
  refine own_entry (P := own_End s (QLD Z j0 h0 n0) ({ frames := 5, cells := 1, slots := 3, locals := 82 } : Room).cells ({ frames := 5, cells := 1, slots := 3, locals := 82 } : Room).slots) (ef_rmDT10 m a (0 : Int32)) ?_
  show own_Go p e below _ s₁ (mkF m 0 #[.val (.ref a), .val (.int (0 : Int32))] [])
  have c1_ := Exa.ext O0.2 Ecf
  have c2_ := Fld.ext O0.2 Frg
  have c3_ := Exa.ext O0.2 Erg
  have c4_ := Fld.ext O0.2 Fmn
  have c5_ := Fld.ext O0.2 Fmx
  have c6_ := Exa.ext O0.2 Eis
  refine own_st (fun t_ k_ => XS.aloadN X0.here hx rfl (hb hby d20_0) rfl rfl k_) ?_
  show own_Go p e below _ s₁ (mkF m 1 #[.val (.ref a), .val (.int (0 : Int32))] [(.ref a)])
  obtain ⟨T1, X1, e1, st1⟩ := getF X0 hx hZ hown (host := "") (Or.inl (hw _ (List.mem_of_getElem? (i := 110) rfl))) Via.refl e0 F1 (g := (mkF m 1 #[.val (.ref a), .val (.int (0 : Int32))] [(.ref a)])) rfl rfl (hb hby d20_1)
  refine own_st st1 ?_
  show own_Go p e below _ T1 (mkF m 4 #[.val (.ref a), .val (.int (0 : Int32))] [(.ref t1)])
  refine own_st (fun t_ k_ => XS.iloadN X1.here hx rfl (hb hby d20_4) rfl k_) ?_
  show own_Go p e below _ T1 (mkF m 5 #[.val (.ref a), .val (.int (0 : Int32))] [(.int (0 : Int32)), (.ref t1)])
  obtain ⟨cl2, Ar2, q2, S2, N2', H2, G2⟩ := id Pj1
  have hin2 : ¬ ((0 : Int32) < 0 ∨ cl2.slots.size ≤ ((0 : Int32)).toNatClampNeg) := inb_of S2 ⟨by decide, by decide⟩
  refine own_st (fun t_ k_ => X1.laload hx (j := (0 : Int32)) (v := (.long j0)) (by rw [e1]; exact Ar2.1) (State.isArrayOf_alike hZ.alike Ar2.2.1) Ar2.2.2 hin2 (Has.at H2 hin2 rfl) (g := (mkF m 5 #[.val (.ref a), .val (.int (0 : Int32))] [(.int (0 : Int32)), (.ref t1)])) rfl rfl (hb hby d20_5) t_ k_) ?_
  show own_Go p e below _ T1 (mkF m 6 #[.val (.ref a), .val (.int (0 : Int32))] [(.long j0)])
  refine own_callS X1 hx (y := (⟨"java/time/LocalDate", "ofEpochDay", "(J)Ljava/time/LocalDate;"⟩ : MethodName)) hown (mvT hZ (hw _ (List.mem_of_getElem? (i := 154) rfl))) (mvT hZ (hw _ (List.mem_of_getElem? (i := 3) rfl))) (mvT hZ (hw _ (List.mem_of_getElem? (i := 4) rfl))) (mvT hZ (hw _ (List.mem_of_getElem? (i := 5) rfl))) (by decide) (backOf (W := 0) (rmOE l Z a0 hw [] j0 cf rg iso h0 n0 (Nat.le_trans Z0 (Keep.refl h0 []).1) O0 SEp Ecf Frg Erg Fmn Fmx SIn Eis hd) hZ (hw _ (List.mem_of_getElem? (i := 5) rfl)) (hw _ (List.mem_of_getElem? (i := 4) rfl)) (by decide) (by decide)) (g := (mkF m 6 #[.val (.ref a), .val (.int (0 : Int32))] [(.long j0)])) rfl (by rw [hml]; rfl) (argsL := [(.long j0)]) (rest := []) (lenOf pd_11 rfl) rfl (by show 2 * 0 + _ ≤ _; exact Nat.le_of_eq rfl) (hb hby d20_6) rfl e1 (by decide) (by decide) ?_
  rintro v3 T3 L3 X3 ⟨o3, y3, mo3, kd3, rfl, Nq3, Kq3, go3, g_o3, Eo3, Fy3, Fm3, Fd3, hD3⟩
  have N3 := Fr.app N0 Nq3
  have K3 : Keep h0 T3.heap [] := (Keep.refl h0 []).trans Kq3 all0
  have sz_o3 : h0.size ≤ o3 := Nat.le_trans (Keep.refl h0 []).1 go3
  show own_Go p e below _ T3 (mkF m 9 #[.val (.ref a), .val (.int (0 : Int32))] [(.ref o3)])
  refine own_retA X3 hx hlk Bd.returns rfl rfl (hb hby d20_9) ?_ (by decide) (by decide)
  show QLD Z j0 h0 n0 _ T3.heap _
  exact ⟨o3, _, _, _, rfl, N3, K3, sz_o3, g_o3, Eo3, Fy3, Fm3, Fd3, hD3⟩
theorem d21_0 : decode prog_19_method_8_code 0 = .ok (.aload_n 0, 1) := by decide +kernel
theorem d21_1 : decode prog_19_method_8_code 1 = .ok (.getfield 13, 3) := by decide +kernel
theorem d21_4 : decode prog_19_method_8_code 4 = .ok (.iload_n 1, 1) := by decide +kernel
theorem d21_5 : decode prog_19_method_8_code 5 = .ok (.daload, 1) := by decide +kernel
theorem d21_6 : decode prog_19_method_8_code 6 = .ok (.dreturn, 1) := by decide +kernel
theorem ef_rmVL10 (m : MethodId) (x0 : Addr) (x1 : Int32) : entryFrame m #[(.ref x0), (.int x1)] 2 = mkF m 0 #[.val (.ref x0), .val (.int x1)] [] := by first | (simp [entryFrame, mkF, argsToLocals, Value.category]; done) | rfl
set_option maxRecDepth 65536 in
set_option maxHeartbeats 40000000 in
theorem rmVL10 (l : Launch) (Z : State) (a0 : Array Value) (hw : ∀ d ∈ tables_1, d.before a0 Z = true) (ws : List Jvm.Cond) (a t2 : Addr) (k2 : ClassId) (x0_ : UInt64) (h0 : Heap) (n0 : Nat) (Z0 : n0 ≤ h0.size) (F2 : Fld Z h0 a "com/example/hebelwerk/hebelwerk/engine/DatedValues" "values" "[D" (.ref t2)) (Pj2 : Arv Z h0 t2 k2 .double (1 : Int32) [(.double x0_)] (.double (0 : UInt64))) :
    MetFree l (⟨"com/example/hebelwerk/hebelwerk/engine/DatedValues", "value", "(I)D"⟩ : MethodName) (head1 (Jvm.Cond.code (⟨"com/example/hebelwerk/hebelwerk/engine/DatedValues", "value", "(I)D"⟩ : MethodName) prog_19_method_8_code 2 (some .double) :: ws) ({ frames := 0, cells := 0, slots := 0, locals := 0 } : Room)) (fun a_ U_ => a_ = #[(.ref a), (.int (0 : Int32))] ∧ Z.Warmed39 U_.vm ∧ U_.heap = h0) (fun _ _ _ _ _ => True) (fun _ U_ o_ U'_ => ∃ v_ L_, o_ = .returned v_ ∧ QR (.double x0_) h0 n0 v_ U'_.heap L_ ∧ FrameEnd U_ o_ U'_ L_ ({ frames := 0, cells := 0, slots := 0, locals := 0 } : Room).cells ({ frames := 0, cells := 0, slots := 0, locals := 0 } : Room).slots) := by
  refine MetFree.of_bodySF (plainFor_of_name pn_6) hisR ?_
  intro p e s m args below meth c s₁ Bd hml0 hP hK
  obtain ⟨rfl, hZ, hh⟩ := hP
  have hx := Bd.exec
  have hby := Bd.bytes
  have hml : c.maxLocals = 2 := hml0
  have hown : s.vm.findClass "com/example/hebelwerk/hebelwerk/engine/DatedValues" = some m.cls := findClass_of_methodNamed Bd.named
  have hnm := (name_of_methodNamed Bd.named Bd.method).1
  have hlk := BodyLoose.notSynchronized Bd
  have X0 : Stand p l e ({ frames := 0, cells := 0, slots := 0, locals := 0 } : Room) s m #[(.ref a), (.int (0 : Int32))] below meth c s₁ [] 0 0 := Stand.of_body Bd
  have e0 : s₁.heap = h0 := by rw [← hh, Bd.state]; rfl
  have N0 := Fr.nil n0
  refine own_entry (P := own_End s (QR (.double x0_) h0 n0) ({ frames := 0, cells := 0, slots := 0, locals := 0 } : Room).cells ({ frames := 0, cells := 0, slots := 0, locals := 0 } : Room).slots) (ef_rmVL10 m a (0 : Int32)) ?_
  show own_Go p e below _ s₁ (mkF m 0 #[.val (.ref a), .val (.int (0 : Int32))] [])
  refine own_st (fun t_ k_ => XS.aloadN X0.here hx rfl (hb hby d21_0) rfl rfl k_) ?_
  show own_Go p e below _ s₁ (mkF m 1 #[.val (.ref a), .val (.int (0 : Int32))] [(.ref a)])
  obtain ⟨T1, X1, e1, st1⟩ := getF X0 hx hZ hown (host := "") (Or.inl (hw _ (List.mem_of_getElem? (i := 112) rfl))) Via.refl e0 F2 (g := (mkF m 1 #[.val (.ref a), .val (.int (0 : Int32))] [(.ref a)])) rfl rfl (hb hby d21_1)
  refine own_st st1 ?_
  show own_Go p e below _ T1 (mkF m 4 #[.val (.ref a), .val (.int (0 : Int32))] [(.ref t2)])
  refine own_st (fun t_ k_ => XS.iloadN X1.here hx rfl (hb hby d21_4) rfl k_) ?_
  show own_Go p e below _ T1 (mkF m 5 #[.val (.ref a), .val (.int (0 : Int32))] [(.int (0 : Int32)), (.ref t2)])
  obtain ⟨cl2, Ar2, q2, S2, N2', H2, G2⟩ := id Pj2
  have hin2 : ¬ ((0 : Int32) < 0 ∨ cl2.slots.size ≤ ((0 : Int32)).toNatClampNeg) := inb_of S2 ⟨by decide, by decide⟩
  refine own_st (fun t_ k_ => X1.daload hx (j := (0 : Int32)) (v := (.double x0_)) (by rw [e1]; exact Ar2.1) (State.isArrayOf_alike hZ.alike Ar2.2.1) Ar2.2.2 hin2 (Has.at H2 hin2 rfl) (g := (mkF m 5 #[.val (.ref a), .val (.int (0 : Int32))] [(.int (0 : Int32)), (.ref t2)])) rfl rfl (hb hby d21_5) t_ k_) ?_
  show own_Go p e below _ T1 (mkF m 6 #[.val (.ref a), .val (.int (0 : Int32))] [(.double x0_)])
  refine own_retD X1 hx hlk Bd.returns (hb hby d21_6) ?_ (by decide) (by decide)
  show QR (.double x0_) h0 n0 _ T1.heap _
  rw [e1]
  exact ⟨rfl, N0, rfl⟩
def QBD2 (Z : State) (j0 j1 j2 : Int64) (x0_ x1_ x2_ : UInt64) (h0 : Heap) (n0 : Nat) (v : Option Value) (h : Heap) (L : List Loc) : Prop := ∃ (o t1 t2 : Addr) (k1 k2 : ClassId), v = some (.ref o) ∧ Fr n0 L ∧ Keep h0 h [] ∧ Exa Z h o "com/example/hebelwerk/hebelwerk/engine/DatedValues" ∧ Fld Z h o "com/example/hebelwerk/hebelwerk/engine/DatedValues" "days" "[J" (.ref t1) ∧ Fld Z h o "com/example/hebelwerk/hebelwerk/engine/DatedValues" "values" "[D" (.ref t2) ∧ Arv Z h t1 k1 .long (2 : Int32) [(.long j0), (.long j1)] (.long (0 : Int64)) ∧ Arv Z h t2 k2 .double (2 : Int32) [(.double x0_), (.double x1_)] (.double (0 : UInt64))
theorem ef_rmBD2 (m : MethodId) (x0 : Addr) : entryFrame m #[(.ref x0)] 1 = mkF m 0 #[.val (.ref x0)] [] := by first | (simp [entryFrame, mkF, argsToLocals, Value.category]; done) | rfl
set_option maxRecDepth 65536 in
set_option maxHeartbeats 40000000 in
theorem rmBD2 (l : Launch) (Z : State) (a0 : Array Value) (hw : ∀ d ∈ tables_1, d.before a0 Z = true) (ws : List Jvm.Cond) (a t1 t2 : Addr) (k1 k2 : ClassId) (j0 j1 j2 : Int64) (x0_ x1_ x2_ : UInt64) (h0 : Heap) (n0 : Nat) (Z0 : n0 ≤ h0.size) (Ea : Exa Z h0 a "com/example/hebelwerk/hebelwerk/engine/DatedValues$Builder") (F1 : Fld Z h0 a "com/example/hebelwerk/hebelwerk/engine/DatedValues$Builder" "days" "[J" (.ref t1)) (F2 : Fld Z h0 a "com/example/hebelwerk/hebelwerk/engine/DatedValues$Builder" "values" "[D" (.ref t2)) (F3 : Fld Z h0 a "com/example/hebelwerk/hebelwerk/engine/DatedValues$Builder" "size" "I" (.int (2 : Int32))) (Pj1 : Arv Z h0 t1 k1 .long (256 : Int32) [(.long j0), (.long j1), (.long j2)] (.long (0 : Int64))) (Pj2 : Arv Z h0 t2 k2 .double (256 : Int32) [(.double x0_), (.double x1_), (.double x2_)] (.double (0 : UInt64))) :
    MetFree l (⟨"com/example/hebelwerk/hebelwerk/engine/DatedValues$Builder", "build", "()Lcom/example/hebelwerk/hebelwerk/engine/DatedValues;"⟩ : MethodName) (head1 (Jvm.Cond.code (⟨"com/example/hebelwerk/hebelwerk/engine/DatedValues$Builder", "build", "()Lcom/example/hebelwerk/hebelwerk/engine/DatedValues;"⟩ : MethodName) prog_20_method_3_code 1 (some (.object "com/example/hebelwerk/hebelwerk/engine/DatedValues")) :: ws) ({ frames := 2, cells := 3, slots := 6, locals := 57 } : Room)) (fun a_ U_ => a_ = #[(.ref a)] ∧ Z.Warmed39 U_.vm ∧ U_.heap = h0) (fun _ _ _ _ _ => True) (fun _ U_ o_ U'_ => ∃ v_ L_, o_ = .returned v_ ∧ QBD2 Z j0 j1 j2 x0_ x1_ x2_ h0 n0 v_ U'_.heap L_ ∧ FrameEnd U_ o_ U'_ L_ ({ frames := 2, cells := 3, slots := 6, locals := 57 } : Room).cells ({ frames := 2, cells := 3, slots := 6, locals := 57 } : Room).slots) := by
  refine MetFree.of_bodySF (plainFor_of_name pn_5) hisR ?_
  intro p e s m args below meth c s₁ Bd hml0 hP hK
  obtain ⟨rfl, hZ, hh⟩ := hP
  have hx := Bd.exec
  have hby := Bd.bytes
  have hml : c.maxLocals = 1 := hml0
  have hown : s.vm.findClass "com/example/hebelwerk/hebelwerk/engine/DatedValues$Builder" = some m.cls := findClass_of_methodNamed Bd.named
  have hnm := (name_of_methodNamed Bd.named Bd.method).1
  have hlk := BodyLoose.notSynchronized Bd
  have X0 : Stand p l e ({ frames := 2, cells := 3, slots := 6, locals := 57 } : Room) s m #[(.ref a)] below meth c s₁ [] 0 0 := Stand.of_body Bd
  have e0 : s₁.heap = h0 := by rw [← hh, Bd.state]; rfl
  have N0 := Fr.nil n0
  refine own_entry (P := own_End s (QBD2 Z j0 j1 j2 x0_ x1_ x2_ h0 n0) ({ frames := 2, cells := 3, slots := 6, locals := 57 } : Room).cells ({ frames := 2, cells := 3, slots := 6, locals := 57 } : Room).slots) (ef_rmBD2 m a) ?_
  show own_Go p e below _ s₁ (mkF m 0 #[.val (.ref a)] [])
  obtain ⟨T1, h1, X1, e1, E1, A1, D1, cel1, st1⟩ := newO X0 hx hZ hown (hw _ (List.mem_of_getElem? (i := 86) rfl)) (hw _ (List.mem_of_getElem? (i := 87) rfl)) (hw _ (List.mem_of_getElem? (i := 88) rfl)) e0 (g := (mkF m 0 #[.val (.ref a)] [])) rfl (hb hby d17_0) (by decide) (by decide)
  obtain ⟨nb1, g1⟩ : ∃ z, z = h0.size := ⟨_, rfl⟩
  rw [← g1] at A1 D1 cel1 st1
  refine own_st st1 ?_
  have g_nb1 : n0 ≤ nb1 := Nat.le_trans (Nat.le_trans Z0 (Keep.refl h0 []).1) (Nat.le_of_eq g1.symm)
  have K1 : Keep h0 h1 [] := (Keep.refl h0 []).ext E1
  have sz_nb1 : h0.size ≤ nb1 := Nat.le_trans (Keep.refl h0 []).1 (Nat.le_of_eq g1.symm)
  have F1_days : Fld Z h1 nb1 "com/example/hebelwerk/hebelwerk/engine/DatedValues" "days" "[J" .null := D1 (Or.inr (hw _ (List.mem_of_getElem? (i := 111) rfl))) (ty := (.array .long)) (by decide)
  have F1_values : Fld Z h1 nb1 "com/example/hebelwerk/hebelwerk/engine/DatedValues" "values" "[D" .null := D1 (Or.inr (hw _ (List.mem_of_getElem? (i := 113) rfl))) (ty := (.array .double)) (by decide)
  show own_Go p e below _ T1 (mkF m 3 #[.val (.ref a)] [(.ref nb1)])
  refine own_st (fun t_ k_ => XS.dup X1.here hx rfl (hb hby d17_3) rfl rfl k_) ?_
  show own_Go p e below _ T1 (mkF m 4 #[.val (.ref a)] [(.ref nb1), (.ref nb1)])
  refine own_st (fun t_ k_ => XS.aloadN X1.here hx rfl (hb hby d17_4) rfl rfl k_) ?_
  show own_Go p e below _ T1 (mkF m 5 #[.val (.ref a)] [(.ref a), (.ref nb1), (.ref nb1)])
  have f2 := (Fld.ext E1 F1)
  obtain ⟨T3, X3, e3, st3⟩ := getF X1 hx hZ hown (host := "") (Or.inl (hw _ (List.mem_of_getElem? (i := 76) rfl))) Via.refl e1 f2 (g := (mkF m 5 #[.val (.ref a)] [(.ref a), (.ref nb1), (.ref nb1)])) rfl rfl (hb hby d17_5)
  refine own_st st3 ?_
  show own_Go p e below _ T3 (mkF m 8 #[.val (.ref a)] [(.ref t1), (.ref nb1), (.ref nb1)])
  refine own_st (fun t_ k_ => XS.aloadN X3.here hx rfl (hb hby d17_8) rfl rfl k_) ?_
  show own_Go p e below _ T3 (mkF m 9 #[.val (.ref a)] [(.ref a), (.ref t1), (.ref nb1), (.ref nb1)])
  have f4 := (Fld.ext E1 F3)
  obtain ⟨T5, X5, e5, st5⟩ := getF X3 hx hZ hown (host := "") (Or.inl (hw _ (List.mem_of_getElem? (i := 89) rfl))) Via.refl e3 f4 (g := (mkF m 9 #[.val (.ref a)] [(.ref a), (.ref t1), (.ref nb1), (.ref nb1)])) rfl rfl (hb hby d17_9)
  refine own_st st5 ?_
  show own_Go p e below _ T5 (mkF m 12 #[.val (.ref a)] [(.int (2 : Int32)), (.ref t1), (.ref nb1), (.ref nb1)])
  have f6 := (Pj1.ext E1)
  refine own_callS X5 hx (y := (⟨"java/util/Arrays", "copyOf", "([JI)[J"⟩ : MethodName)) hown (mvT hZ (hw _ (List.mem_of_getElem? (i := 91) rfl))) (mvT hZ (hw _ (List.mem_of_getElem? (i := 92) rfl))) (mvT hZ (hw _ (List.mem_of_getElem? (i := 93) rfl))) (mvT hZ (hw _ (List.mem_of_getElem? (i := 94) rfl))) (by decide) (backOf (W := 2) (rmCYl2 l Z a0 hw [] t1 k1 j0 j1 j2 h1 n0 (Nat.le_trans Z0 K1.1) f6) hZ (hw _ (List.mem_of_getElem? (i := 94) rfl)) (hw _ (List.mem_of_getElem? (i := 93) rfl)) (by decide) (by decide)) (g := (mkF m 12 #[.val (.ref a)] [(.int (2 : Int32)), (.ref t1), (.ref nb1), (.ref nb1)])) rfl (by rw [hml]; rfl) (argsL := [(.ref t1), (.int (2 : Int32))]) (rest := [(.ref nb1), (.ref nb1)]) (lenOf pd_8 rfl) rfl (by show 2 * 0 + _ ≤ _; exact Nat.le_of_eq rfl) (hb hby d17_12) rfl e5 (by decide) (by decide) ?_
  rintro v7 T7 L7 X7 ⟨x7, k7, rfl, Nq7, Kq7, gx7, g_x7, Ax7⟩
  have N7 := Fr.app N0 Nq7
  have K7 : Keep h0 T7.heap [] := K1.trans Kq7 all0
  have sz_x7 : h0.size ≤ x7 := Nat.le_trans K1.1 gx7
  show own_Go p e below _ T7 (mkF m 15 #[.val (.ref a)] [(.ref x7), (.ref nb1), (.ref nb1)])
  refine own_st (fun t_ k_ => XS.aloadN X7.here hx rfl (hb hby d17_15) rfl rfl k_) ?_
  show own_Go p e below _ T7 (mkF m 16 #[.val (.ref a)] [(.ref a), (.ref x7), (.ref nb1), (.ref nb1)])
  have f8 := (Fld.ext E1 F2)
  have f9 := (f8.keep Kq7 nin0)
  obtain ⟨T10, X10, e10, st10⟩ := getF X7 hx hZ hown (host := "") (Or.inl (hw _ (List.mem_of_getElem? (i := 79) rfl))) Via.refl rfl f9 (g := (mkF m 16 #[.val (.ref a)] [(.ref a), (.ref x7), (.ref nb1), (.ref nb1)])) rfl rfl (hb hby d17_16)
  refine own_st st10 ?_
  show own_Go p e below _ T10 (mkF m 19 #[.val (.ref a)] [(.ref t2), (.ref x7), (.ref nb1), (.ref nb1)])
  refine own_st (fun t_ k_ => XS.aloadN X10.here hx rfl (hb hby d17_19) rfl rfl k_) ?_
  show own_Go p e below _ T10 (mkF m 20 #[.val (.ref a)] [(.ref a), (.ref t2), (.ref x7), (.ref nb1), (.ref nb1)])
  have f11 := (f4.keep Kq7 nin0)
  obtain ⟨T12, X12, e12, st12⟩ := getF X10 hx hZ hown (host := "") (Or.inl (hw _ (List.mem_of_getElem? (i := 89) rfl))) Via.refl e10 f11 (g := (mkF m 20 #[.val (.ref a)] [(.ref a), (.ref t2), (.ref x7), (.ref nb1), (.ref nb1)])) rfl rfl (hb hby d17_20)
  refine own_st st12 ?_
  show own_Go p e below _ T12 (mkF m 23 #[.val (.ref a)] [(.int (2 : Int32)), (.ref t2), (.ref x7), (.ref nb1), (.ref nb1)])
  have f13 := (Pj2.ext E1)
  have f14 := (f13.keep Kq7 nin0)
  refine own_callS X12 hx (y := (⟨"java/util/Arrays", "copyOf", "([DI)[D"⟩ : MethodName)) hown (mvT hZ (hw _ (List.mem_of_getElem? (i := 103) rfl))) (mvT hZ (hw _ (List.mem_of_getElem? (i := 104) rfl))) (mvT hZ (hw _ (List.mem_of_getElem? (i := 93) rfl))) (mvT hZ (hw _ (List.mem_of_getElem? (i := 105) rfl))) (by decide) (backOf (W := 3) (rmCYd2 l Z a0 hw [] t2 k2 x0_ x1_ x2_ T7.heap n0 (Nat.le_trans Z0 K7.1) f14) hZ (hw _ (List.mem_of_getElem? (i := 105) rfl)) (hw _ (List.mem_of_getElem? (i := 93) rfl)) (by decide) (by decide)) (g := (mkF m 23 #[.val (.ref a)] [(.int (2 : Int32)), (.ref t2), (.ref x7), (.ref nb1), (.ref nb1)])) rfl (by rw [hml]; rfl) (argsL := [(.ref t2), (.int (2 : Int32))]) (rest := [(.ref x7), (.ref nb1), (.ref nb1)]) (lenOf pd_9 rfl) rfl (by show 2 * 0 + _ ≤ _; exact Nat.le_of_eq rfl) (hb hby d17_23) rfl e12 (by decide) (by decide) ?_
  rintro v15 T15 L15 X15 ⟨x15, k15, rfl, Nq15, Kq15, gx15, g_x15, Ax15⟩
  have N15 := Fr.app N7 Nq15
  have K15 : Keep h0 T15.heap [] := K7.trans Kq15 all0
  have sz_x15 : h0.size ≤ x15 := Nat.le_trans K7.1 gx15
  show own_Go p e below _ T15 (mkF m 26 #[.val (.ref a)] [(.ref x15), (.ref x7), (.ref nb1), (.ref nb1)])
  have f16 := (A1.keep Kq7)
  have f17 := (f16.keep Kq15)
  have f18 := (F1_days.keep Kq7 nin0)
  have f19 := (f18.keep Kq15 nin0)
  have f20 := (F1_values.keep Kq7 nin0)
  have f21 := (f20.keep Kq15 nin0)
  refine own_callNN X15 hx (y := (⟨"com/example/hebelwerk/hebelwerk/engine/DatedValues", "<init>", "([J[D)V"⟩ : MethodName)) rfl hown (own_mvMN hZ (hw _ (List.mem_of_getElem? (i := 106) rfl))) (mvT hZ (hw _ (List.mem_of_getElem? (i := 107) rfl))) (mvT hZ (hw _ (List.mem_of_getElem? (i := 108) rfl))) (by decide) (backOf (W := 1) (rmDI l Z a0 hw [] nb1 x7 x15 T15.heap n0 (Nat.le_trans Z0 K15.1) g_nb1 f17 f19 f21) hZ (hw _ (List.mem_of_getElem? (i := 108) rfl)) (hw _ (List.mem_of_getElem? (i := 88) rfl)) (by decide) (by decide)) (a := nb1) (g := (mkF m 26 #[.val (.ref a)] [(.ref x15), (.ref x7), (.ref nb1), (.ref nb1)])) rfl (by rw [hml]; rfl) (argsL := [(.ref x7), (.ref x15)]) (rest := [(.ref nb1)]) (lenOf pd_10 rfl) rfl (by show 2 * 0 + _ ≤ _; exact Nat.le_of_eq rfl) (hb hby d17_26) rfl rfl (by decide) (by decide) ?_
  rintro v22 T22 L22 X22 ⟨rfl, Nq22, Kq22, Eq22, Fd22, Fv22⟩
  have N22 := Fr.app N15 Nq22
  have K22 : Keep h0 T22.heap [] := K15.trans Kq22 (allS (Or.inr sz_nb1) all0)
  show own_Go p e below _ T22 (mkF m 29 #[.val (.ref a)] [(.ref nb1)])
  have f23 := (Ax7.keep Kq15 nin0)
  have ne24 : nb1 ≠ x7 := (Nat.ne_of_lt (Nat.lt_of_lt_of_le A1.lt gx7))
  have f25 := (f23.keep Kq22 (ninS (Ne.symm ne24) nin0))
  have ne26 : nb1 ≠ x15 := (Nat.ne_of_lt (Nat.lt_of_lt_of_le f16.lt gx15))
  have f27 := (Ax15.keep Kq22 (ninS (Ne.symm ne26) nin0))
  refine own_retA X22 hx hlk Bd.returns rfl rfl (hb hby d17_29) ?_ (by decide) (by decide)
  show QBD2 Z j0 j1 j2 x0_ x1_ x2_ h0 n0 _ T22.heap _
  exact ⟨nb1, x7, x15, _, _, rfl, N22, K22, Eq22, Fd22, Fv22, f25, f27⟩
theorem ef_rmSI2 (m : MethodId) (x0 : Addr) : entryFrame m #[(.ref x0)] 1 = mkF m 0 #[.val (.ref x0)] [] := by first | (simp [entryFrame, mkF, argsToLocals, Value.category]; done) | rfl
set_option maxRecDepth 65536 in
set_option maxHeartbeats 40000000 in
theorem rmSI2 (l : Launch) (Z : State) (a0 : Array Value) (hw : ∀ d ∈ tables_1, d.before a0 Z = true) (ws : List Jvm.Cond) (a t1 : Addr) (k1 : ClassId) (j0 j1 : Int64) (h0 : Heap) (n0 : Nat) (Z0 : n0 ≤ h0.size) (F1 : Fld Z h0 a "com/example/hebelwerk/hebelwerk/engine/DatedValues" "days" "[J" (.ref t1)) (Pj1 : Arv Z h0 t1 k1 .long (2 : Int32) [(.long j0), (.long j1)] (.long (0 : Int64))) :
    MetFree l (⟨"com/example/hebelwerk/hebelwerk/engine/DatedValues", "size", "()I"⟩ : MethodName) (head1 (Jvm.Cond.code (⟨"com/example/hebelwerk/hebelwerk/engine/DatedValues", "size", "()I"⟩ : MethodName) prog_19_method_3_code 1 (some .int) :: ws) ({ frames := 0, cells := 0, slots := 0, locals := 0 } : Room)) (fun a_ U_ => a_ = #[(.ref a)] ∧ Z.Warmed39 U_.vm ∧ U_.heap = h0) (fun _ _ _ _ _ => True) (fun _ U_ o_ U'_ => ∃ v_ L_, o_ = .returned v_ ∧ QR (.int (2 : Int32)) h0 n0 v_ U'_.heap L_ ∧ FrameEnd U_ o_ U'_ L_ ({ frames := 0, cells := 0, slots := 0, locals := 0 } : Room).cells ({ frames := 0, cells := 0, slots := 0, locals := 0 } : Room).slots) := by
  refine MetFree.of_bodySF (plainFor_of_name pn_6) hisR ?_
  intro p e s m args below meth c s₁ Bd hml0 hP hK
  obtain ⟨rfl, hZ, hh⟩ := hP
  have hx := Bd.exec
  have hby := Bd.bytes
  have hml : c.maxLocals = 1 := hml0
  have hown : s.vm.findClass "com/example/hebelwerk/hebelwerk/engine/DatedValues" = some m.cls := findClass_of_methodNamed Bd.named
  have hnm := (name_of_methodNamed Bd.named Bd.method).1
  have hlk := BodyLoose.notSynchronized Bd
  have X0 : Stand p l e ({ frames := 0, cells := 0, slots := 0, locals := 0 } : Room) s m #[(.ref a)] below meth c s₁ [] 0 0 := Stand.of_body Bd
  have e0 : s₁.heap = h0 := by rw [← hh, Bd.state]; rfl
  have N0 := Fr.nil n0
  refine own_entry (P := own_End s (QR (.int (2 : Int32)) h0 n0) ({ frames := 0, cells := 0, slots := 0, locals := 0 } : Room).cells ({ frames := 0, cells := 0, slots := 0, locals := 0 } : Room).slots) (ef_rmSI2 m a) ?_
  show own_Go p e below _ s₁ (mkF m 0 #[.val (.ref a)] [])
  refine own_st (fun t_ k_ => XS.aloadN X0.here hx rfl (hb hby d18_0) rfl rfl k_) ?_
  show own_Go p e below _ s₁ (mkF m 1 #[.val (.ref a)] [(.ref a)])
  obtain ⟨T1, X1, e1, st1⟩ := getF X0 hx hZ hown (host := "") (Or.inl (hw _ (List.mem_of_getElem? (i := 110) rfl))) Via.refl e0 F1 (g := (mkF m 1 #[.val (.ref a)] [(.ref a)])) rfl rfl (hb hby d18_1)
  refine own_st st1 ?_
  show own_Go p e below _ T1 (mkF m 4 #[.val (.ref a)] [(.ref t1)])
  obtain ⟨cl2, Ar2, -, S2, N2', -, -⟩ := id Pj1
  refine own_st (fun t_ k_ => X1.arraylength hx (by rw [e1]; exact Ar2.1) (State.isArrayOf_alike hZ.alike Ar2.2.1) (g := (mkF m 4 #[.val (.ref a)] [(.ref t1)])) rfl rfl (hb hby d18_4) t_ k_) ?_
  rw [len_of S2 N2']
  show own_Go p e below _ T1 (mkF m 5 #[.val (.ref a)] [(.int (2 : Int32))])
  refine own_retI X1 hx hlk Bd.returns (hb hby d18_5) ?_ (by decide) (by decide)
  show QR (.int (2 : Int32)) h0 n0 _ T1.heap _
  rw [e1]
  exact ⟨rfl, N0, rfl⟩
theorem ef_rmIS2 (m : MethodId) (x0 : Addr) : entryFrame m #[(.ref x0)] 1 = mkF m 0 #[.val (.ref x0)] [] := by first | (simp [entryFrame, mkF, argsToLocals, Value.category]; done) | rfl
set_option maxRecDepth 65536 in
set_option maxHeartbeats 40000000 in
theorem rmIS2 (l : Launch) (Z : State) (a0 : Array Value) (hw : ∀ d ∈ tables_1, d.before a0 Z = true) (ws : List Jvm.Cond) (a t1 : Addr) (k1 : ClassId) (j0 j1 : Int64) (h0 : Heap) (n0 : Nat) (Z0 : n0 ≤ h0.size) (F1 : Fld Z h0 a "com/example/hebelwerk/hebelwerk/engine/DatedValues" "days" "[J" (.ref t1)) (Pj1 : Arv Z h0 t1 k1 .long (2 : Int32) [(.long j0), (.long j1)] (.long (0 : Int64))) :
    MetFree l (⟨"com/example/hebelwerk/hebelwerk/engine/DatedValues", "isEmpty", "()Z"⟩ : MethodName) (head1 (Jvm.Cond.code (⟨"com/example/hebelwerk/hebelwerk/engine/DatedValues", "isEmpty", "()Z"⟩ : MethodName) prog_19_method_2_code 1 (some .boolean) :: ws) ({ frames := 0, cells := 0, slots := 0, locals := 0 } : Room)) (fun a_ U_ => a_ = #[(.ref a)] ∧ Z.Warmed39 U_.vm ∧ U_.heap = h0) (fun _ _ _ _ _ => True) (fun _ U_ o_ U'_ => ∃ v_ L_, o_ = .returned v_ ∧ QR (.int (0 : Int32)) h0 n0 v_ U'_.heap L_ ∧ FrameEnd U_ o_ U'_ L_ ({ frames := 0, cells := 0, slots := 0, locals := 0 } : Room).cells ({ frames := 0, cells := 0, slots := 0, locals := 0 } : Room).slots) := by
  refine MetFree.of_bodySF (plainFor_of_name pn_6) hisR ?_
  intro p e s m args below meth c s₁ Bd hml0 hP hK
  obtain ⟨rfl, hZ, hh⟩ := hP
  have hx := Bd.exec
  have hby := Bd.bytes
  have hml : c.maxLocals = 1 := hml0
  have hown : s.vm.findClass "com/example/hebelwerk/hebelwerk/engine/DatedValues" = some m.cls := findClass_of_methodNamed Bd.named
  have hnm := (name_of_methodNamed Bd.named Bd.method).1
  have hlk := BodyLoose.notSynchronized Bd
  have X0 : Stand p l e ({ frames := 0, cells := 0, slots := 0, locals := 0 } : Room) s m #[(.ref a)] below meth c s₁ [] 0 0 := Stand.of_body Bd
  have e0 : s₁.heap = h0 := by rw [← hh, Bd.state]; rfl
  have N0 := Fr.nil n0
  refine own_entry (P := own_End s (QR (.int (0 : Int32)) h0 n0) ({ frames := 0, cells := 0, slots := 0, locals := 0 } : Room).cells ({ frames := 0, cells := 0, slots := 0, locals := 0 } : Room).slots) (ef_rmIS2 m a) ?_
  show own_Go p e below _ s₁ (mkF m 0 #[.val (.ref a)] [])
  refine own_st (fun t_ k_ => XS.aloadN X0.here hx rfl (hb hby d19_0) rfl rfl k_) ?_
  show own_Go p e below _ s₁ (mkF m 1 #[.val (.ref a)] [(.ref a)])
  obtain ⟨T1, X1, e1, st1⟩ := getF X0 hx hZ hown (host := "") (Or.inl (hw _ (List.mem_of_getElem? (i := 110) rfl))) Via.refl e0 F1 (g := (mkF m 1 #[.val (.ref a)] [(.ref a)])) rfl rfl (hb hby d19_1)
  refine own_st st1 ?_
  show own_Go p e below _ T1 (mkF m 4 #[.val (.ref a)] [(.ref t1)])
  obtain ⟨cl2, Ar2, -, S2, N2', -, -⟩ := id Pj1
  refine own_st (fun t_ k_ => X1.arraylength hx (by rw [e1]; exact Ar2.1) (State.isArrayOf_alike hZ.alike Ar2.2.1) (g := (mkF m 4 #[.val (.ref a)] [(.ref t1)])) rfl rfl (hb hby d19_4) t_ k_) ?_
  rw [len_of S2 N2']
  show own_Go p e below _ T1 (mkF m 5 #[.val (.ref a)] [(.int (2 : Int32))])
  refine own_st (fun t_ k_ => XS.ifYes X1.here hx rfl (pc0 := 5) (pc' := 12) rfl (hb hby d19_5) rfl (by decide) (by decide) (by decide) k_) ?_
  show own_Go p e below _ T1 (mkF m 12 #[.val (.ref a)] [])
  refine own_st (fun t_ k_ => XS.iconst X1.here hx rfl (hb hby d19_12) k_) ?_
  show own_Go p e below _ T1 (mkF m 13 #[.val (.ref a)] [(.int (0 : Int32))])
  refine own_retN X1 hx hlk (t := .boolean) Bd.returns (by simp) (hb hby d19_13) ?_ (by decide) (by decide)
  show QR (.int (0 : Int32)) h0 n0 _ T1.heap _
  rw [e1]
  exact ⟨rfl, N0, rfl⟩
theorem ef_rmDT20 (m : MethodId) (x0 : Addr) (x1 : Int32) : entryFrame m #[(.ref x0), (.int x1)] 2 = mkF m 0 #[.val (.ref x0), .val (.int x1)] [] := by first | (simp [entryFrame, mkF, argsToLocals, Value.category]; done) | rfl
set_option maxRecDepth 65536 in
set_option maxHeartbeats 40000000 in
theorem rmDT20 (l : Launch) (Z : State) (a0 : Array Value) (hw : ∀ d ∈ tables_1, d.before a0 Z = true) (ws : List Jvm.Cond) (a t1 : Addr) (k1 : ClassId) (j0 j1 : Int64) (cf rg iso : Addr) (h0 : Heap) (n0 : Nat) (Z0 : n0 ≤ h0.size) (O0 : Old Z n0 h0) (SEp : Sta Z Z.heap "java/time/temporal/ChronoField" "EPOCH_DAY" "Ljava/time/temporal/ChronoField;" (.ref cf)) (Ecf : Exa Z Z.heap cf "java/time/temporal/ChronoField") (Frg : Fld Z Z.heap cf "java/time/temporal/ChronoField" "range" "Ljava/time/temporal/ValueRange;" (.ref rg)) (Erg : Exa Z Z.heap rg "java/time/temporal/ValueRange") (Fmn : Fld Z Z.heap rg "java/time/temporal/ValueRange" "minSmallest" "J" (.long (-365243219162 : Int64))) (Fmx : Fld Z Z.heap rg "java/time/temporal/ValueRange" "maxLargest" "J" (.long (365241780471 : Int64))) (SIn : Sta Z Z.heap "java/time/chrono/IsoChronology" "INSTANCE" "Ljava/time/chrono/IsoChronology;" (.ref iso)) (Eis : Exa Z Z.heap iso "java/time/chrono/IsoChronology") (F1 : Fld Z h0 a "com/example/hebelwerk/hebelwerk/engine/DatedValues" "days" "[J" (.ref t1)) (Pj1 : Arv Z h0 t1 k1 .long (2 : Int32) [(.long j0), (.long j1)] (.long (0 : Int64))) (hd : -100000200000 ≤ j0.toInt ∧ j0.toInt ≤ 100000200000) :
    MetFree l (⟨"com/example/hebelwerk/hebelwerk/engine/DatedValues", "date", "(I)Ljava/time/LocalDate;"⟩ : MethodName) (head1 (Jvm.Cond.code (⟨"com/example/hebelwerk/hebelwerk/engine/DatedValues", "date", "(I)Ljava/time/LocalDate;"⟩ : MethodName) prog_19_method_7_code 2 (some (.object "java/time/LocalDate")) :: ws) ({ frames := 5, cells := 1, slots := 3, locals := 82 } : Room)) (fun a_ U_ => a_ = #[(.ref a), (.int (0 : Int32))] ∧ Z.Warmed39 U_.vm ∧ U_.heap = h0) (fun _ _ _ _ _ => True) (fun _ U_ o_ U'_ => ∃ v_ L_, o_ = .returned v_ ∧ QLD Z j0 h0 n0 v_ U'_.heap L_ ∧ FrameEnd U_ o_ U'_ L_ ({ frames := 5, cells := 1, slots := 3, locals := 82 } : Room).cells ({ frames := 5, cells := 1, slots := 3, locals := 82 } : Room).slots) := by
  refine MetFree.of_bodySF (plainFor_of_name pn_6) hisR ?_
  intro p e s m args below meth c s₁ Bd hml0 hP hK
  obtain ⟨rfl, hZ, hh⟩ := hP
  have hx := Bd.exec
  have hby := Bd.bytes
  have hml : c.maxLocals = 2 := hml0
  have hown : s.vm.findClass "com/example/hebelwerk/hebelwerk/engine/DatedValues" = some m.cls := findClass_of_methodNamed Bd.named
  have hnm := (name_of_methodNamed Bd.named Bd.method).1
  have hlk := BodyLoose.notSynchronized Bd
  have X0 : Stand p l e ({ frames := 5, cells := 1, slots := 3, locals := 82 } : Room) s m #[(.ref a), (.int (0 : Int32))] below meth c s₁ [] 0 0 := Stand.of_body Bd
  have e0 : s₁.heap = h0 := by rw [← hh, Bd.state]; rfl
  have N0 := Fr.nil n0
  refine own_entry (P := own_End s (QLD Z j0 h0 n0) ({ frames := 5, cells := 1, slots := 3, locals := 82 } : Room).cells ({ frames := 5, cells := 1, slots := 3, locals := 82 } : Room).slots) (ef_rmDT20 m a (0 : Int32)) ?_
  show own_Go p e below _ s₁ (mkF m 0 #[.val (.ref a), .val (.int (0 : Int32))] [])
  have c1_ := Exa.ext O0.2 Ecf
  have c2_ := Fld.ext O0.2 Frg
  have c3_ := Exa.ext O0.2 Erg
  have c4_ := Fld.ext O0.2 Fmn
  have c5_ := Fld.ext O0.2 Fmx
  have c6_ := Exa.ext O0.2 Eis
  refine own_st (fun t_ k_ => XS.aloadN X0.here hx rfl (hb hby d20_0) rfl rfl k_) ?_
  show own_Go p e below _ s₁ (mkF m 1 #[.val (.ref a), .val (.int (0 : Int32))] [(.ref a)])
  obtain ⟨T1, X1, e1, st1⟩ := getF X0 hx hZ hown (host := "") (Or.inl (hw _ (List.mem_of_getElem? (i := 110) rfl))) Via.refl e0 F1 (g := (mkF m 1 #[.val (.ref a), .val (.int (0 : Int32))] [(.ref a)])) rfl rfl (hb hby d20_1)
  refine own_st st1 ?_
  show own_Go p e below _ T1 (mkF m 4 #[.val (.ref a), .val (.int (0 : Int32))] [(.ref t1)])
  refine own_st (fun t_ k_ => XS.iloadN X1.here hx rfl (hb hby d20_4) rfl k_) ?_
  show own_Go p e below _ T1 (mkF m 5 #[.val (.ref a), .val (.int (0 : Int32))] [(.int (0 : Int32)), (.ref t1)])
  obtain ⟨cl2, Ar2, q2, S2, N2', H2, G2⟩ := id Pj1
  have hin2 : ¬ ((0 : Int32) < 0 ∨ cl2.slots.size ≤ ((0 : Int32)).toNatClampNeg) := inb_of S2 ⟨by decide, by decide⟩
  refine own_st (fun t_ k_ => X1.laload hx (j := (0 : Int32)) (v := (.long j0)) (by rw [e1]; exact Ar2.1) (State.isArrayOf_alike hZ.alike Ar2.2.1) Ar2.2.2 hin2 (Has.at H2 hin2 rfl) (g := (mkF m 5 #[.val (.ref a), .val (.int (0 : Int32))] [(.int (0 : Int32)), (.ref t1)])) rfl rfl (hb hby d20_5) t_ k_) ?_
  show own_Go p e below _ T1 (mkF m 6 #[.val (.ref a), .val (.int (0 : Int32))] [(.long j0)])
  refine own_callS X1 hx (y := (⟨"java/time/LocalDate", "ofEpochDay", "(J)Ljava/time/LocalDate;"⟩ : MethodName)) hown (mvT hZ (hw _ (List.mem_of_getElem? (i := 154) rfl))) (mvT hZ (hw _ (List.mem_of_getElem? (i := 3) rfl))) (mvT hZ (hw _ (List.mem_of_getElem? (i := 4) rfl))) (mvT hZ (hw _ (List.mem_of_getElem? (i := 5) rfl))) (by decide) (backOf (W := 0) (rmOE l Z a0 hw [] j0 cf rg iso h0 n0 (Nat.le_trans Z0 (Keep.refl h0 []).1) O0 SEp Ecf Frg Erg Fmn Fmx SIn Eis hd) hZ (hw _ (List.mem_of_getElem? (i := 5) rfl)) (hw _ (List.mem_of_getElem? (i := 4) rfl)) (by decide) (by decide)) (g := (mkF m 6 #[.val (.ref a), .val (.int (0 : Int32))] [(.long j0)])) rfl (by rw [hml]; rfl) (argsL := [(.long j0)]) (rest := []) (lenOf pd_11 rfl) rfl (by show 2 * 0 + _ ≤ _; exact Nat.le_of_eq rfl) (hb hby d20_6) rfl e1 (by decide) (by decide) ?_
  rintro v3 T3 L3 X3 ⟨o3, y3, mo3, kd3, rfl, Nq3, Kq3, go3, g_o3, Eo3, Fy3, Fm3, Fd3, hD3⟩
  have N3 := Fr.app N0 Nq3
  have K3 : Keep h0 T3.heap [] := (Keep.refl h0 []).trans Kq3 all0
  have sz_o3 : h0.size ≤ o3 := Nat.le_trans (Keep.refl h0 []).1 go3
  show own_Go p e below _ T3 (mkF m 9 #[.val (.ref a), .val (.int (0 : Int32))] [(.ref o3)])
  refine own_retA X3 hx hlk Bd.returns rfl rfl (hb hby d20_9) ?_ (by decide) (by decide)
  show QLD Z j0 h0 n0 _ T3.heap _
  exact ⟨o3, _, _, _, rfl, N3, K3, sz_o3, g_o3, Eo3, Fy3, Fm3, Fd3, hD3⟩
theorem ef_rmVL20 (m : MethodId) (x0 : Addr) (x1 : Int32) : entryFrame m #[(.ref x0), (.int x1)] 2 = mkF m 0 #[.val (.ref x0), .val (.int x1)] [] := by first | (simp [entryFrame, mkF, argsToLocals, Value.category]; done) | rfl
set_option maxRecDepth 65536 in
set_option maxHeartbeats 40000000 in
theorem rmVL20 (l : Launch) (Z : State) (a0 : Array Value) (hw : ∀ d ∈ tables_1, d.before a0 Z = true) (ws : List Jvm.Cond) (a t2 : Addr) (k2 : ClassId) (x0_ x1_ : UInt64) (h0 : Heap) (n0 : Nat) (Z0 : n0 ≤ h0.size) (F2 : Fld Z h0 a "com/example/hebelwerk/hebelwerk/engine/DatedValues" "values" "[D" (.ref t2)) (Pj2 : Arv Z h0 t2 k2 .double (2 : Int32) [(.double x0_), (.double x1_)] (.double (0 : UInt64))) :
    MetFree l (⟨"com/example/hebelwerk/hebelwerk/engine/DatedValues", "value", "(I)D"⟩ : MethodName) (head1 (Jvm.Cond.code (⟨"com/example/hebelwerk/hebelwerk/engine/DatedValues", "value", "(I)D"⟩ : MethodName) prog_19_method_8_code 2 (some .double) :: ws) ({ frames := 0, cells := 0, slots := 0, locals := 0 } : Room)) (fun a_ U_ => a_ = #[(.ref a), (.int (0 : Int32))] ∧ Z.Warmed39 U_.vm ∧ U_.heap = h0) (fun _ _ _ _ _ => True) (fun _ U_ o_ U'_ => ∃ v_ L_, o_ = .returned v_ ∧ QR (.double x0_) h0 n0 v_ U'_.heap L_ ∧ FrameEnd U_ o_ U'_ L_ ({ frames := 0, cells := 0, slots := 0, locals := 0 } : Room).cells ({ frames := 0, cells := 0, slots := 0, locals := 0 } : Room).slots) := by
  refine MetFree.of_bodySF (plainFor_of_name pn_6) hisR ?_
  intro p e s m args below meth c s₁ Bd hml0 hP hK
  obtain ⟨rfl, hZ, hh⟩ := hP
  have hx := Bd.exec
  have hby := Bd.bytes
  have hml : c.maxLocals = 2 := hml0
  have hown : s.vm.findClass "com/example/hebelwerk/hebelwerk/engine/DatedValues" = some m.cls := findClass_of_methodNamed Bd.named
  have hnm := (name_of_methodNamed Bd.named Bd.method).1
  have hlk := BodyLoose.notSynchronized Bd
  have X0 : Stand p l e ({ frames := 0, cells := 0, slots := 0, locals := 0 } : Room) s m #[(.ref a), (.int (0 : Int32))] below meth c s₁ [] 0 0 := Stand.of_body Bd
  have e0 : s₁.heap = h0 := by rw [← hh, Bd.state]; rfl
  have N0 := Fr.nil n0
  refine own_entry (P := own_End s (QR (.double x0_) h0 n0) ({ frames := 0, cells := 0, slots := 0, locals := 0 } : Room).cells ({ frames := 0, cells := 0, slots := 0, locals := 0 } : Room).slots) (ef_rmVL20 m a (0 : Int32)) ?_
  show own_Go p e below _ s₁ (mkF m 0 #[.val (.ref a), .val (.int (0 : Int32))] [])
  refine own_st (fun t_ k_ => XS.aloadN X0.here hx rfl (hb hby d21_0) rfl rfl k_) ?_
  show own_Go p e below _ s₁ (mkF m 1 #[.val (.ref a), .val (.int (0 : Int32))] [(.ref a)])
  obtain ⟨T1, X1, e1, st1⟩ := getF X0 hx hZ hown (host := "") (Or.inl (hw _ (List.mem_of_getElem? (i := 112) rfl))) Via.refl e0 F2 (g := (mkF m 1 #[.val (.ref a), .val (.int (0 : Int32))] [(.ref a)])) rfl rfl (hb hby d21_1)
  refine own_st st1 ?_
  show own_Go p e below _ T1 (mkF m 4 #[.val (.ref a), .val (.int (0 : Int32))] [(.ref t2)])
  refine own_st (fun t_ k_ => XS.iloadN X1.here hx rfl (hb hby d21_4) rfl k_) ?_
  show own_Go p e below _ T1 (mkF m 5 #[.val (.ref a), .val (.int (0 : Int32))] [(.int (0 : Int32)), (.ref t2)])
  obtain ⟨cl2, Ar2, q2, S2, N2', H2, G2⟩ := id Pj2
  have hin2 : ¬ ((0 : Int32) < 0 ∨ cl2.slots.size ≤ ((0 : Int32)).toNatClampNeg) := inb_of S2 ⟨by decide, by decide⟩
  refine own_st (fun t_ k_ => X1.daload hx (j := (0 : Int32)) (v := (.double x0_)) (by rw [e1]; exact Ar2.1) (State.isArrayOf_alike hZ.alike Ar2.2.1) Ar2.2.2 hin2 (Has.at H2 hin2 rfl) (g := (mkF m 5 #[.val (.ref a), .val (.int (0 : Int32))] [(.int (0 : Int32)), (.ref t2)])) rfl rfl (hb hby d21_5) t_ k_) ?_
  show own_Go p e below _ T1 (mkF m 6 #[.val (.ref a), .val (.int (0 : Int32))] [(.double x0_)])
  refine own_retD X1 hx hlk Bd.returns (hb hby d21_6) ?_ (by decide) (by decide)
  show QR (.double x0_) h0 n0 _ T1.heap _
  rw [e1]
  exact ⟨rfl, N0, rfl⟩
theorem ef_rmDT21 (m : MethodId) (x0 : Addr) (x1 : Int32) : entryFrame m #[(.ref x0), (.int x1)] 2 = mkF m 0 #[.val (.ref x0), .val (.int x1)] [] := by first | (simp [entryFrame, mkF, argsToLocals, Value.category]; done) | rfl
set_option maxRecDepth 65536 in
set_option maxHeartbeats 40000000 in
theorem rmDT21 (l : Launch) (Z : State) (a0 : Array Value) (hw : ∀ d ∈ tables_1, d.before a0 Z = true) (ws : List Jvm.Cond) (a t1 : Addr) (k1 : ClassId) (j0 j1 : Int64) (cf rg iso : Addr) (h0 : Heap) (n0 : Nat) (Z0 : n0 ≤ h0.size) (O0 : Old Z n0 h0) (SEp : Sta Z Z.heap "java/time/temporal/ChronoField" "EPOCH_DAY" "Ljava/time/temporal/ChronoField;" (.ref cf)) (Ecf : Exa Z Z.heap cf "java/time/temporal/ChronoField") (Frg : Fld Z Z.heap cf "java/time/temporal/ChronoField" "range" "Ljava/time/temporal/ValueRange;" (.ref rg)) (Erg : Exa Z Z.heap rg "java/time/temporal/ValueRange") (Fmn : Fld Z Z.heap rg "java/time/temporal/ValueRange" "minSmallest" "J" (.long (-365243219162 : Int64))) (Fmx : Fld Z Z.heap rg "java/time/temporal/ValueRange" "maxLargest" "J" (.long (365241780471 : Int64))) (SIn : Sta Z Z.heap "java/time/chrono/IsoChronology" "INSTANCE" "Ljava/time/chrono/IsoChronology;" (.ref iso)) (Eis : Exa Z Z.heap iso "java/time/chrono/IsoChronology") (F1 : Fld Z h0 a "com/example/hebelwerk/hebelwerk/engine/DatedValues" "days" "[J" (.ref t1)) (Pj1 : Arv Z h0 t1 k1 .long (2 : Int32) [(.long j0), (.long j1)] (.long (0 : Int64))) (hd : -100000200000 ≤ j1.toInt ∧ j1.toInt ≤ 100000200000) :
    MetFree l (⟨"com/example/hebelwerk/hebelwerk/engine/DatedValues", "date", "(I)Ljava/time/LocalDate;"⟩ : MethodName) (head1 (Jvm.Cond.code (⟨"com/example/hebelwerk/hebelwerk/engine/DatedValues", "date", "(I)Ljava/time/LocalDate;"⟩ : MethodName) prog_19_method_7_code 2 (some (.object "java/time/LocalDate")) :: ws) ({ frames := 5, cells := 1, slots := 3, locals := 82 } : Room)) (fun a_ U_ => a_ = #[(.ref a), (.int (1 : Int32))] ∧ Z.Warmed39 U_.vm ∧ U_.heap = h0) (fun _ _ _ _ _ => True) (fun _ U_ o_ U'_ => ∃ v_ L_, o_ = .returned v_ ∧ QLD Z j1 h0 n0 v_ U'_.heap L_ ∧ FrameEnd U_ o_ U'_ L_ ({ frames := 5, cells := 1, slots := 3, locals := 82 } : Room).cells ({ frames := 5, cells := 1, slots := 3, locals := 82 } : Room).slots) := by
  refine MetFree.of_bodySF (plainFor_of_name pn_6) hisR ?_
  intro p e s m args below meth c s₁ Bd hml0 hP hK
  obtain ⟨rfl, hZ, hh⟩ := hP
  have hx := Bd.exec
  have hby := Bd.bytes
  have hml : c.maxLocals = 2 := hml0
  have hown : s.vm.findClass "com/example/hebelwerk/hebelwerk/engine/DatedValues" = some m.cls := findClass_of_methodNamed Bd.named
  have hnm := (name_of_methodNamed Bd.named Bd.method).1
  have hlk := BodyLoose.notSynchronized Bd
  have X0 : Stand p l e ({ frames := 5, cells := 1, slots := 3, locals := 82 } : Room) s m #[(.ref a), (.int (1 : Int32))] below meth c s₁ [] 0 0 := Stand.of_body Bd
  have e0 : s₁.heap = h0 := by rw [← hh, Bd.state]; rfl
  have N0 := Fr.nil n0
  refine own_entry (P := own_End s (QLD Z j1 h0 n0) ({ frames := 5, cells := 1, slots := 3, locals := 82 } : Room).cells ({ frames := 5, cells := 1, slots := 3, locals := 82 } : Room).slots) (ef_rmDT21 m a (1 : Int32)) ?_
  show own_Go p e below _ s₁ (mkF m 0 #[.val (.ref a), .val (.int (1 : Int32))] [])
  have c1_ := Exa.ext O0.2 Ecf
  have c2_ := Fld.ext O0.2 Frg
  have c3_ := Exa.ext O0.2 Erg
  have c4_ := Fld.ext O0.2 Fmn
  have c5_ := Fld.ext O0.2 Fmx
  have c6_ := Exa.ext O0.2 Eis
  refine own_st (fun t_ k_ => XS.aloadN X0.here hx rfl (hb hby d20_0) rfl rfl k_) ?_
  show own_Go p e below _ s₁ (mkF m 1 #[.val (.ref a), .val (.int (1 : Int32))] [(.ref a)])
  obtain ⟨T1, X1, e1, st1⟩ := getF X0 hx hZ hown (host := "") (Or.inl (hw _ (List.mem_of_getElem? (i := 110) rfl))) Via.refl e0 F1 (g := (mkF m 1 #[.val (.ref a), .val (.int (1 : Int32))] [(.ref a)])) rfl rfl (hb hby d20_1)
  refine own_st st1 ?_
  show own_Go p e below _ T1 (mkF m 4 #[.val (.ref a), .val (.int (1 : Int32))] [(.ref t1)])
  refine own_st (fun t_ k_ => XS.iloadN X1.here hx rfl (hb hby d20_4) rfl k_) ?_
  show own_Go p e below _ T1 (mkF m 5 #[.val (.ref a), .val (.int (1 : Int32))] [(.int (1 : Int32)), (.ref t1)])
  obtain ⟨cl2, Ar2, q2, S2, N2', H2, G2⟩ := id Pj1
  have hin2 : ¬ ((1 : Int32) < 0 ∨ cl2.slots.size ≤ ((1 : Int32)).toNatClampNeg) := inb_of S2 ⟨by decide, by decide⟩
  refine own_st (fun t_ k_ => X1.laload hx (j := (1 : Int32)) (v := (.long j1)) (by rw [e1]; exact Ar2.1) (State.isArrayOf_alike hZ.alike Ar2.2.1) Ar2.2.2 hin2 (Has.at H2 hin2 rfl) (g := (mkF m 5 #[.val (.ref a), .val (.int (1 : Int32))] [(.int (1 : Int32)), (.ref t1)])) rfl rfl (hb hby d20_5) t_ k_) ?_
  show own_Go p e below _ T1 (mkF m 6 #[.val (.ref a), .val (.int (1 : Int32))] [(.long j1)])
  refine own_callS X1 hx (y := (⟨"java/time/LocalDate", "ofEpochDay", "(J)Ljava/time/LocalDate;"⟩ : MethodName)) hown (mvT hZ (hw _ (List.mem_of_getElem? (i := 154) rfl))) (mvT hZ (hw _ (List.mem_of_getElem? (i := 3) rfl))) (mvT hZ (hw _ (List.mem_of_getElem? (i := 4) rfl))) (mvT hZ (hw _ (List.mem_of_getElem? (i := 5) rfl))) (by decide) (backOf (W := 0) (rmOE l Z a0 hw [] j1 cf rg iso h0 n0 (Nat.le_trans Z0 (Keep.refl h0 []).1) O0 SEp Ecf Frg Erg Fmn Fmx SIn Eis hd) hZ (hw _ (List.mem_of_getElem? (i := 5) rfl)) (hw _ (List.mem_of_getElem? (i := 4) rfl)) (by decide) (by decide)) (g := (mkF m 6 #[.val (.ref a), .val (.int (1 : Int32))] [(.long j1)])) rfl (by rw [hml]; rfl) (argsL := [(.long j1)]) (rest := []) (lenOf pd_11 rfl) rfl (by show 2 * 0 + _ ≤ _; exact Nat.le_of_eq rfl) (hb hby d20_6) rfl e1 (by decide) (by decide) ?_
  rintro v3 T3 L3 X3 ⟨o3, y3, mo3, kd3, rfl, Nq3, Kq3, go3, g_o3, Eo3, Fy3, Fm3, Fd3, hD3⟩
  have N3 := Fr.app N0 Nq3
  have K3 : Keep h0 T3.heap [] := (Keep.refl h0 []).trans Kq3 all0
  have sz_o3 : h0.size ≤ o3 := Nat.le_trans (Keep.refl h0 []).1 go3
  show own_Go p e below _ T3 (mkF m 9 #[.val (.ref a), .val (.int (1 : Int32))] [(.ref o3)])
  refine own_retA X3 hx hlk Bd.returns rfl rfl (hb hby d20_9) ?_ (by decide) (by decide)
  show QLD Z j1 h0 n0 _ T3.heap _
  exact ⟨o3, _, _, _, rfl, N3, K3, sz_o3, g_o3, Eo3, Fy3, Fm3, Fd3, hD3⟩
theorem ef_rmVL21 (m : MethodId) (x0 : Addr) (x1 : Int32) : entryFrame m #[(.ref x0), (.int x1)] 2 = mkF m 0 #[.val (.ref x0), .val (.int x1)] [] := by first | (simp [entryFrame, mkF, argsToLocals, Value.category]; done) | rfl
set_option maxRecDepth 65536 in
set_option maxHeartbeats 40000000 in
theorem rmVL21 (l : Launch) (Z : State) (a0 : Array Value) (hw : ∀ d ∈ tables_1, d.before a0 Z = true) (ws : List Jvm.Cond) (a t2 : Addr) (k2 : ClassId) (x0_ x1_ : UInt64) (h0 : Heap) (n0 : Nat) (Z0 : n0 ≤ h0.size) (F2 : Fld Z h0 a "com/example/hebelwerk/hebelwerk/engine/DatedValues" "values" "[D" (.ref t2)) (Pj2 : Arv Z h0 t2 k2 .double (2 : Int32) [(.double x0_), (.double x1_)] (.double (0 : UInt64))) :
    MetFree l (⟨"com/example/hebelwerk/hebelwerk/engine/DatedValues", "value", "(I)D"⟩ : MethodName) (head1 (Jvm.Cond.code (⟨"com/example/hebelwerk/hebelwerk/engine/DatedValues", "value", "(I)D"⟩ : MethodName) prog_19_method_8_code 2 (some .double) :: ws) ({ frames := 0, cells := 0, slots := 0, locals := 0 } : Room)) (fun a_ U_ => a_ = #[(.ref a), (.int (1 : Int32))] ∧ Z.Warmed39 U_.vm ∧ U_.heap = h0) (fun _ _ _ _ _ => True) (fun _ U_ o_ U'_ => ∃ v_ L_, o_ = .returned v_ ∧ QR (.double x1_) h0 n0 v_ U'_.heap L_ ∧ FrameEnd U_ o_ U'_ L_ ({ frames := 0, cells := 0, slots := 0, locals := 0 } : Room).cells ({ frames := 0, cells := 0, slots := 0, locals := 0 } : Room).slots) := by
  refine MetFree.of_bodySF (plainFor_of_name pn_6) hisR ?_
  intro p e s m args below meth c s₁ Bd hml0 hP hK
  obtain ⟨rfl, hZ, hh⟩ := hP
  have hx := Bd.exec
  have hby := Bd.bytes
  have hml : c.maxLocals = 2 := hml0
  have hown : s.vm.findClass "com/example/hebelwerk/hebelwerk/engine/DatedValues" = some m.cls := findClass_of_methodNamed Bd.named
  have hnm := (name_of_methodNamed Bd.named Bd.method).1
  have hlk := BodyLoose.notSynchronized Bd
  have X0 : Stand p l e ({ frames := 0, cells := 0, slots := 0, locals := 0 } : Room) s m #[(.ref a), (.int (1 : Int32))] below meth c s₁ [] 0 0 := Stand.of_body Bd
  have e0 : s₁.heap = h0 := by rw [← hh, Bd.state]; rfl
  have N0 := Fr.nil n0
  refine own_entry (P := own_End s (QR (.double x1_) h0 n0) ({ frames := 0, cells := 0, slots := 0, locals := 0 } : Room).cells ({ frames := 0, cells := 0, slots := 0, locals := 0 } : Room).slots) (ef_rmVL21 m a (1 : Int32)) ?_
  show own_Go p e below _ s₁ (mkF m 0 #[.val (.ref a), .val (.int (1 : Int32))] [])
  refine own_st (fun t_ k_ => XS.aloadN X0.here hx rfl (hb hby d21_0) rfl rfl k_) ?_
  show own_Go p e below _ s₁ (mkF m 1 #[.val (.ref a), .val (.int (1 : Int32))] [(.ref a)])
  obtain ⟨T1, X1, e1, st1⟩ := getF X0 hx hZ hown (host := "") (Or.inl (hw _ (List.mem_of_getElem? (i := 112) rfl))) Via.refl e0 F2 (g := (mkF m 1 #[.val (.ref a), .val (.int (1 : Int32))] [(.ref a)])) rfl rfl (hb hby d21_1)
  refine own_st st1 ?_
  show own_Go p e below _ T1 (mkF m 4 #[.val (.ref a), .val (.int (1 : Int32))] [(.ref t2)])
  refine own_st (fun t_ k_ => XS.iloadN X1.here hx rfl (hb hby d21_4) rfl k_) ?_
  show own_Go p e below _ T1 (mkF m 5 #[.val (.ref a), .val (.int (1 : Int32))] [(.int (1 : Int32)), (.ref t2)])
  obtain ⟨cl2, Ar2, q2, S2, N2', H2, G2⟩ := id Pj2
  have hin2 : ¬ ((1 : Int32) < 0 ∨ cl2.slots.size ≤ ((1 : Int32)).toNatClampNeg) := inb_of S2 ⟨by decide, by decide⟩
  refine own_st (fun t_ k_ => X1.daload hx (j := (1 : Int32)) (v := (.double x1_)) (by rw [e1]; exact Ar2.1) (State.isArrayOf_alike hZ.alike Ar2.2.1) Ar2.2.2 hin2 (Has.at H2 hin2 rfl) (g := (mkF m 5 #[.val (.ref a), .val (.int (1 : Int32))] [(.int (1 : Int32)), (.ref t2)])) rfl rfl (hb hby d21_5) t_ k_) ?_
  show own_Go p e below _ T1 (mkF m 6 #[.val (.ref a), .val (.int (1 : Int32))] [(.double x1_)])
  refine own_retD X1 hx hlk Bd.returns (hb hby d21_6) ?_ (by decide) (by decide)
  show QR (.double x1_) h0 n0 _ T1.heap _
  rw [e1]
  exact ⟨rfl, N0, rfl⟩
def QBD3 (Z : State) (j0 j1 j2 : Int64) (x0_ x1_ x2_ : UInt64) (h0 : Heap) (n0 : Nat) (v : Option Value) (h : Heap) (L : List Loc) : Prop := ∃ (o t1 t2 : Addr) (k1 k2 : ClassId), v = some (.ref o) ∧ Fr n0 L ∧ Keep h0 h [] ∧ Exa Z h o "com/example/hebelwerk/hebelwerk/engine/DatedValues" ∧ Fld Z h o "com/example/hebelwerk/hebelwerk/engine/DatedValues" "days" "[J" (.ref t1) ∧ Fld Z h o "com/example/hebelwerk/hebelwerk/engine/DatedValues" "values" "[D" (.ref t2) ∧ Arv Z h t1 k1 .long (3 : Int32) [(.long j0), (.long j1), (.long j2)] (.long (0 : Int64)) ∧ Arv Z h t2 k2 .double (3 : Int32) [(.double x0_), (.double x1_), (.double x2_)] (.double (0 : UInt64))
theorem ef_rmBD3 (m : MethodId) (x0 : Addr) : entryFrame m #[(.ref x0)] 1 = mkF m 0 #[.val (.ref x0)] [] := by first | (simp [entryFrame, mkF, argsToLocals, Value.category]; done) | rfl
set_option maxRecDepth 65536 in
set_option maxHeartbeats 40000000 in
theorem rmBD3 (l : Launch) (Z : State) (a0 : Array Value) (hw : ∀ d ∈ tables_1, d.before a0 Z = true) (ws : List Jvm.Cond) (a t1 t2 : Addr) (k1 k2 : ClassId) (j0 j1 j2 : Int64) (x0_ x1_ x2_ : UInt64) (h0 : Heap) (n0 : Nat) (Z0 : n0 ≤ h0.size) (Ea : Exa Z h0 a "com/example/hebelwerk/hebelwerk/engine/DatedValues$Builder") (F1 : Fld Z h0 a "com/example/hebelwerk/hebelwerk/engine/DatedValues$Builder" "days" "[J" (.ref t1)) (F2 : Fld Z h0 a "com/example/hebelwerk/hebelwerk/engine/DatedValues$Builder" "values" "[D" (.ref t2)) (F3 : Fld Z h0 a "com/example/hebelwerk/hebelwerk/engine/DatedValues$Builder" "size" "I" (.int (3 : Int32))) (Pj1 : Arv Z h0 t1 k1 .long (256 : Int32) [(.long j0), (.long j1), (.long j2)] (.long (0 : Int64))) (Pj2 : Arv Z h0 t2 k2 .double (256 : Int32) [(.double x0_), (.double x1_), (.double x2_)] (.double (0 : UInt64))) :
    MetFree l (⟨"com/example/hebelwerk/hebelwerk/engine/DatedValues$Builder", "build", "()Lcom/example/hebelwerk/hebelwerk/engine/DatedValues;"⟩ : MethodName) (head1 (Jvm.Cond.code (⟨"com/example/hebelwerk/hebelwerk/engine/DatedValues$Builder", "build", "()Lcom/example/hebelwerk/hebelwerk/engine/DatedValues;"⟩ : MethodName) prog_20_method_3_code 1 (some (.object "com/example/hebelwerk/hebelwerk/engine/DatedValues")) :: ws) ({ frames := 2, cells := 3, slots := 8, locals := 57 } : Room)) (fun a_ U_ => a_ = #[(.ref a)] ∧ Z.Warmed39 U_.vm ∧ U_.heap = h0) (fun _ _ _ _ _ => True) (fun _ U_ o_ U'_ => ∃ v_ L_, o_ = .returned v_ ∧ QBD3 Z j0 j1 j2 x0_ x1_ x2_ h0 n0 v_ U'_.heap L_ ∧ FrameEnd U_ o_ U'_ L_ ({ frames := 2, cells := 3, slots := 8, locals := 57 } : Room).cells ({ frames := 2, cells := 3, slots := 8, locals := 57 } : Room).slots) := by
  refine MetFree.of_bodySF (plainFor_of_name pn_5) hisR ?_
  intro p e s m args below meth c s₁ Bd hml0 hP hK
  obtain ⟨rfl, hZ, hh⟩ := hP
  have hx := Bd.exec
  have hby := Bd.bytes
  have hml : c.maxLocals = 1 := hml0
  have hown : s.vm.findClass "com/example/hebelwerk/hebelwerk/engine/DatedValues$Builder" = some m.cls := findClass_of_methodNamed Bd.named
  have hnm := (name_of_methodNamed Bd.named Bd.method).1
  have hlk := BodyLoose.notSynchronized Bd
  have X0 : Stand p l e ({ frames := 2, cells := 3, slots := 8, locals := 57 } : Room) s m #[(.ref a)] below meth c s₁ [] 0 0 := Stand.of_body Bd
  have e0 : s₁.heap = h0 := by rw [← hh, Bd.state]; rfl
  have N0 := Fr.nil n0
  refine own_entry (P := own_End s (QBD3 Z j0 j1 j2 x0_ x1_ x2_ h0 n0) ({ frames := 2, cells := 3, slots := 8, locals := 57 } : Room).cells ({ frames := 2, cells := 3, slots := 8, locals := 57 } : Room).slots) (ef_rmBD3 m a) ?_
  show own_Go p e below _ s₁ (mkF m 0 #[.val (.ref a)] [])
  obtain ⟨T1, h1, X1, e1, E1, A1, D1, cel1, st1⟩ := newO X0 hx hZ hown (hw _ (List.mem_of_getElem? (i := 86) rfl)) (hw _ (List.mem_of_getElem? (i := 87) rfl)) (hw _ (List.mem_of_getElem? (i := 88) rfl)) e0 (g := (mkF m 0 #[.val (.ref a)] [])) rfl (hb hby d17_0) (by decide) (by decide)
  obtain ⟨nb1, g1⟩ : ∃ z, z = h0.size := ⟨_, rfl⟩
  rw [← g1] at A1 D1 cel1 st1
  refine own_st st1 ?_
  have g_nb1 : n0 ≤ nb1 := Nat.le_trans (Nat.le_trans Z0 (Keep.refl h0 []).1) (Nat.le_of_eq g1.symm)
  have K1 : Keep h0 h1 [] := (Keep.refl h0 []).ext E1
  have sz_nb1 : h0.size ≤ nb1 := Nat.le_trans (Keep.refl h0 []).1 (Nat.le_of_eq g1.symm)
  have F1_days : Fld Z h1 nb1 "com/example/hebelwerk/hebelwerk/engine/DatedValues" "days" "[J" .null := D1 (Or.inr (hw _ (List.mem_of_getElem? (i := 111) rfl))) (ty := (.array .long)) (by decide)
  have F1_values : Fld Z h1 nb1 "com/example/hebelwerk/hebelwerk/engine/DatedValues" "values" "[D" .null := D1 (Or.inr (hw _ (List.mem_of_getElem? (i := 113) rfl))) (ty := (.array .double)) (by decide)
  show own_Go p e below _ T1 (mkF m 3 #[.val (.ref a)] [(.ref nb1)])
  refine own_st (fun t_ k_ => XS.dup X1.here hx rfl (hb hby d17_3) rfl rfl k_) ?_
  show own_Go p e below _ T1 (mkF m 4 #[.val (.ref a)] [(.ref nb1), (.ref nb1)])
  refine own_st (fun t_ k_ => XS.aloadN X1.here hx rfl (hb hby d17_4) rfl rfl k_) ?_
  show own_Go p e below _ T1 (mkF m 5 #[.val (.ref a)] [(.ref a), (.ref nb1), (.ref nb1)])
  have f2 := (Fld.ext E1 F1)
  obtain ⟨T3, X3, e3, st3⟩ := getF X1 hx hZ hown (host := "") (Or.inl (hw _ (List.mem_of_getElem? (i := 76) rfl))) Via.refl e1 f2 (g := (mkF m 5 #[.val (.ref a)] [(.ref a), (.ref nb1), (.ref nb1)])) rfl rfl (hb hby d17_5)
  refine own_st st3 ?_
  show own_Go p e below _ T3 (mkF m 8 #[.val (.ref a)] [(.ref t1), (.ref nb1), (.ref nb1)])
  refine own_st (fun t_ k_ => XS.aloadN X3.here hx rfl (hb hby d17_8) rfl rfl k_) ?_
  show own_Go p e below _ T3 (mkF m 9 #[.val (.ref a)] [(.ref a), (.ref t1), (.ref nb1), (.ref nb1)])
  have f4 := (Fld.ext E1 F3)
  obtain ⟨T5, X5, e5, st5⟩ := getF X3 hx hZ hown (host := "") (Or.inl (hw _ (List.mem_of_getElem? (i := 89) rfl))) Via.refl e3 f4 (g := (mkF m 9 #[.val (.ref a)] [(.ref a), (.ref t1), (.ref nb1), (.ref nb1)])) rfl rfl (hb hby d17_9)
  refine own_st st5 ?_
  show own_Go p e below _ T5 (mkF m 12 #[.val (.ref a)] [(.int (3 : Int32)), (.ref t1), (.ref nb1), (.ref nb1)])
  have f6 := (Pj1.ext E1)
  refine own_callS X5 hx (y := (⟨"java/util/Arrays", "copyOf", "([JI)[J"⟩ : MethodName)) hown (mvT hZ (hw _ (List.mem_of_getElem? (i := 91) rfl))) (mvT hZ (hw _ (List.mem_of_getElem? (i := 92) rfl))) (mvT hZ (hw _ (List.mem_of_getElem? (i := 93) rfl))) (mvT hZ (hw _ (List.mem_of_getElem? (i := 94) rfl))) (by decide) (backOf (W := 2) (rmCYl3 l Z a0 hw [] t1 k1 j0 j1 j2 h1 n0 (Nat.le_trans Z0 K1.1) f6) hZ (hw _ (List.mem_of_getElem? (i := 94) rfl)) (hw _ (List.mem_of_getElem? (i := 93) rfl)) (by decide) (by decide)) (g := (mkF m 12 #[.val (.ref a)] [(.int (3 : Int32)), (.ref t1), (.ref nb1), (.ref nb1)])) rfl (by rw [hml]; rfl) (argsL := [(.ref t1), (.int (3 : Int32))]) (rest := [(.ref nb1), (.ref nb1)]) (lenOf pd_8 rfl) rfl (by show 2 * 0 + _ ≤ _; exact Nat.le_of_eq rfl) (hb hby d17_12) rfl e5 (by decide) (by decide) ?_
  rintro v7 T7 L7 X7 ⟨x7, k7, rfl, Nq7, Kq7, gx7, g_x7, Ax7⟩
  have N7 := Fr.app N0 Nq7
  have K7 : Keep h0 T7.heap [] := K1.trans Kq7 all0
  have sz_x7 : h0.size ≤ x7 := Nat.le_trans K1.1 gx7
  show own_Go p e below _ T7 (mkF m 15 #[.val (.ref a)] [(.ref x7), (.ref nb1), (.ref nb1)])
  refine own_st (fun t_ k_ => XS.aloadN X7.here hx rfl (hb hby d17_15) rfl rfl k_) ?_
  show own_Go p e below _ T7 (mkF m 16 #[.val (.ref a)] [(.ref a), (.ref x7), (.ref nb1), (.ref nb1)])
  have f8 := (Fld.ext E1 F2)
  have f9 := (f8.keep Kq7 nin0)
  obtain ⟨T10, X10, e10, st10⟩ := getF X7 hx hZ hown (host := "") (Or.inl (hw _ (List.mem_of_getElem? (i := 79) rfl))) Via.refl rfl f9 (g := (mkF m 16 #[.val (.ref a)] [(.ref a), (.ref x7), (.ref nb1), (.ref nb1)])) rfl rfl (hb hby d17_16)
  refine own_st st10 ?_
  show own_Go p e below _ T10 (mkF m 19 #[.val (.ref a)] [(.ref t2), (.ref x7), (.ref nb1), (.ref nb1)])
  refine own_st (fun t_ k_ => XS.aloadN X10.here hx rfl (hb hby d17_19) rfl rfl k_) ?_
  show own_Go p e below _ T10 (mkF m 20 #[.val (.ref a)] [(.ref a), (.ref t2), (.ref x7), (.ref nb1), (.ref nb1)])
  have f11 := (f4.keep Kq7 nin0)
  obtain ⟨T12, X12, e12, st12⟩ := getF X10 hx hZ hown (host := "") (Or.inl (hw _ (List.mem_of_getElem? (i := 89) rfl))) Via.refl e10 f11 (g := (mkF m 20 #[.val (.ref a)] [(.ref a), (.ref t2), (.ref x7), (.ref nb1), (.ref nb1)])) rfl rfl (hb hby d17_20)
  refine own_st st12 ?_
  show own_Go p e below _ T12 (mkF m 23 #[.val (.ref a)] [(.int (3 : Int32)), (.ref t2), (.ref x7), (.ref nb1), (.ref nb1)])
  have f13 := (Pj2.ext E1)
  have f14 := (f13.keep Kq7 nin0)
  refine own_callS X12 hx (y := (⟨"java/util/Arrays", "copyOf", "([DI)[D"⟩ : MethodName)) hown (mvT hZ (hw _ (List.mem_of_getElem? (i := 103) rfl))) (mvT hZ (hw _ (List.mem_of_getElem? (i := 104) rfl))) (mvT hZ (hw _ (List.mem_of_getElem? (i := 93) rfl))) (mvT hZ (hw _ (List.mem_of_getElem? (i := 105) rfl))) (by decide) (backOf (W := 3) (rmCYd3 l Z a0 hw [] t2 k2 x0_ x1_ x2_ T7.heap n0 (Nat.le_trans Z0 K7.1) f14) hZ (hw _ (List.mem_of_getElem? (i := 105) rfl)) (hw _ (List.mem_of_getElem? (i := 93) rfl)) (by decide) (by decide)) (g := (mkF m 23 #[.val (.ref a)] [(.int (3 : Int32)), (.ref t2), (.ref x7), (.ref nb1), (.ref nb1)])) rfl (by rw [hml]; rfl) (argsL := [(.ref t2), (.int (3 : Int32))]) (rest := [(.ref x7), (.ref nb1), (.ref nb1)]) (lenOf pd_9 rfl) rfl (by show 2 * 0 + _ ≤ _; exact Nat.le_of_eq rfl) (hb hby d17_23) rfl e12 (by decide) (by decide) ?_
  rintro v15 T15 L15 X15 ⟨x15, k15, rfl, Nq15, Kq15, gx15, g_x15, Ax15⟩
  have N15 := Fr.app N7 Nq15
  have K15 : Keep h0 T15.heap [] := K7.trans Kq15 all0
  have sz_x15 : h0.size ≤ x15 := Nat.le_trans K7.1 gx15
  show own_Go p e below _ T15 (mkF m 26 #[.val (.ref a)] [(.ref x15), (.ref x7), (.ref nb1), (.ref nb1)])
  have f16 := (A1.keep Kq7)
  have f17 := (f16.keep Kq15)
  have f18 := (F1_days.keep Kq7 nin0)
  have f19 := (f18.keep Kq15 nin0)
  have f20 := (F1_values.keep Kq7 nin0)
  have f21 := (f20.keep Kq15 nin0)
  refine own_callNN X15 hx (y := (⟨"com/example/hebelwerk/hebelwerk/engine/DatedValues", "<init>", "([J[D)V"⟩ : MethodName)) rfl hown (own_mvMN hZ (hw _ (List.mem_of_getElem? (i := 106) rfl))) (mvT hZ (hw _ (List.mem_of_getElem? (i := 107) rfl))) (mvT hZ (hw _ (List.mem_of_getElem? (i := 108) rfl))) (by decide) (backOf (W := 1) (rmDI l Z a0 hw [] nb1 x7 x15 T15.heap n0 (Nat.le_trans Z0 K15.1) g_nb1 f17 f19 f21) hZ (hw _ (List.mem_of_getElem? (i := 108) rfl)) (hw _ (List.mem_of_getElem? (i := 88) rfl)) (by decide) (by decide)) (a := nb1) (g := (mkF m 26 #[.val (.ref a)] [(.ref x15), (.ref x7), (.ref nb1), (.ref nb1)])) rfl (by rw [hml]; rfl) (argsL := [(.ref x7), (.ref x15)]) (rest := [(.ref nb1)]) (lenOf pd_10 rfl) rfl (by show 2 * 0 + _ ≤ _; exact Nat.le_of_eq rfl) (hb hby d17_26) rfl rfl (by decide) (by decide) ?_
  rintro v22 T22 L22 X22 ⟨rfl, Nq22, Kq22, Eq22, Fd22, Fv22⟩
  have N22 := Fr.app N15 Nq22
  have K22 : Keep h0 T22.heap [] := K15.trans Kq22 (allS (Or.inr sz_nb1) all0)
  show own_Go p e below _ T22 (mkF m 29 #[.val (.ref a)] [(.ref nb1)])
  have f23 := (Ax7.keep Kq15 nin0)
  have ne24 : nb1 ≠ x7 := (Nat.ne_of_lt (Nat.lt_of_lt_of_le A1.lt gx7))
  have f25 := (f23.keep Kq22 (ninS (Ne.symm ne24) nin0))
  have ne26 : nb1 ≠ x15 := (Nat.ne_of_lt (Nat.lt_of_lt_of_le f16.lt gx15))
  have f27 := (Ax15.keep Kq22 (ninS (Ne.symm ne26) nin0))
  refine own_retA X22 hx hlk Bd.returns rfl rfl (hb hby d17_29) ?_ (by decide) (by decide)
  show QBD3 Z j0 j1 j2 x0_ x1_ x2_ h0 n0 _ T22.heap _
  exact ⟨nb1, x7, x15, _, _, rfl, N22, K22, Eq22, Fd22, Fv22, f25, f27⟩
theorem ef_rmSI3 (m : MethodId) (x0 : Addr) : entryFrame m #[(.ref x0)] 1 = mkF m 0 #[.val (.ref x0)] [] := by first | (simp [entryFrame, mkF, argsToLocals, Value.category]; done) | rfl
set_option maxRecDepth 65536 in
set_option maxHeartbeats 40000000 in
theorem rmSI3 (l : Launch) (Z : State) (a0 : Array Value) (hw : ∀ d ∈ tables_1, d.before a0 Z = true) (ws : List Jvm.Cond) (a t1 : Addr) (k1 : ClassId) (j0 j1 j2 : Int64) (h0 : Heap) (n0 : Nat) (Z0 : n0 ≤ h0.size) (F1 : Fld Z h0 a "com/example/hebelwerk/hebelwerk/engine/DatedValues" "days" "[J" (.ref t1)) (Pj1 : Arv Z h0 t1 k1 .long (3 : Int32) [(.long j0), (.long j1), (.long j2)] (.long (0 : Int64))) :
    MetFree l (⟨"com/example/hebelwerk/hebelwerk/engine/DatedValues", "size", "()I"⟩ : MethodName) (head1 (Jvm.Cond.code (⟨"com/example/hebelwerk/hebelwerk/engine/DatedValues", "size", "()I"⟩ : MethodName) prog_19_method_3_code 1 (some .int) :: ws) ({ frames := 0, cells := 0, slots := 0, locals := 0 } : Room)) (fun a_ U_ => a_ = #[(.ref a)] ∧ Z.Warmed39 U_.vm ∧ U_.heap = h0) (fun _ _ _ _ _ => True) (fun _ U_ o_ U'_ => ∃ v_ L_, o_ = .returned v_ ∧ QR (.int (3 : Int32)) h0 n0 v_ U'_.heap L_ ∧ FrameEnd U_ o_ U'_ L_ ({ frames := 0, cells := 0, slots := 0, locals := 0 } : Room).cells ({ frames := 0, cells := 0, slots := 0, locals := 0 } : Room).slots) := by
  refine MetFree.of_bodySF (plainFor_of_name pn_6) hisR ?_
  intro p e s m args below meth c s₁ Bd hml0 hP hK
  obtain ⟨rfl, hZ, hh⟩ := hP
  have hx := Bd.exec
  have hby := Bd.bytes
  have hml : c.maxLocals = 1 := hml0
  have hown : s.vm.findClass "com/example/hebelwerk/hebelwerk/engine/DatedValues" = some m.cls := findClass_of_methodNamed Bd.named
  have hnm := (name_of_methodNamed Bd.named Bd.method).1
  have hlk := BodyLoose.notSynchronized Bd
  have X0 : Stand p l e ({ frames := 0, cells := 0, slots := 0, locals := 0 } : Room) s m #[(.ref a)] below meth c s₁ [] 0 0 := Stand.of_body Bd
  have e0 : s₁.heap = h0 := by rw [← hh, Bd.state]; rfl
  have N0 := Fr.nil n0
  refine own_entry (P := own_End s (QR (.int (3 : Int32)) h0 n0) ({ frames := 0, cells := 0, slots := 0, locals := 0 } : Room).cells ({ frames := 0, cells := 0, slots := 0, locals := 0 } : Room).slots) (ef_rmSI3 m a) ?_
  show own_Go p e below _ s₁ (mkF m 0 #[.val (.ref a)] [])
  refine own_st (fun t_ k_ => XS.aloadN X0.here hx rfl (hb hby d18_0) rfl rfl k_) ?_
  show own_Go p e below _ s₁ (mkF m 1 #[.val (.ref a)] [(.ref a)])
  obtain ⟨T1, X1, e1, st1⟩ := getF X0 hx hZ hown (host := "") (Or.inl (hw _ (List.mem_of_getElem? (i := 110) rfl))) Via.refl e0 F1 (g := (mkF m 1 #[.val (.ref a)] [(.ref a)])) rfl rfl (hb hby d18_1)
  refine own_st st1 ?_
  show own_Go p e below _ T1 (mkF m 4 #[.val (.ref a)] [(.ref t1)])
  obtain ⟨cl2, Ar2, -, S2, N2', -, -⟩ := id Pj1
  refine own_st (fun t_ k_ => X1.arraylength hx (by rw [e1]; exact Ar2.1) (State.isArrayOf_alike hZ.alike Ar2.2.1) (g := (mkF m 4 #[.val (.ref a)] [(.ref t1)])) rfl rfl (hb hby d18_4) t_ k_) ?_
  rw [len_of S2 N2']
  show own_Go p e below _ T1 (mkF m 5 #[.val (.ref a)] [(.int (3 : Int32))])
  refine own_retI X1 hx hlk Bd.returns (hb hby d18_5) ?_ (by decide) (by decide)
  show QR (.int (3 : Int32)) h0 n0 _ T1.heap _
  rw [e1]
  exact ⟨rfl, N0, rfl⟩
theorem ef_rmIS3 (m : MethodId) (x0 : Addr) : entryFrame m #[(.ref x0)] 1 = mkF m 0 #[.val (.ref x0)] [] := by first | (simp [entryFrame, mkF, argsToLocals, Value.category]; done) | rfl
set_option maxRecDepth 65536 in
set_option maxHeartbeats 40000000 in
theorem rmIS3 (l : Launch) (Z : State) (a0 : Array Value) (hw : ∀ d ∈ tables_1, d.before a0 Z = true) (ws : List Jvm.Cond) (a t1 : Addr) (k1 : ClassId) (j0 j1 j2 : Int64) (h0 : Heap) (n0 : Nat) (Z0 : n0 ≤ h0.size) (F1 : Fld Z h0 a "com/example/hebelwerk/hebelwerk/engine/DatedValues" "days" "[J" (.ref t1)) (Pj1 : Arv Z h0 t1 k1 .long (3 : Int32) [(.long j0), (.long j1), (.long j2)] (.long (0 : Int64))) :
    MetFree l (⟨"com/example/hebelwerk/hebelwerk/engine/DatedValues", "isEmpty", "()Z"⟩ : MethodName) (head1 (Jvm.Cond.code (⟨"com/example/hebelwerk/hebelwerk/engine/DatedValues", "isEmpty", "()Z"⟩ : MethodName) prog_19_method_2_code 1 (some .boolean) :: ws) ({ frames := 0, cells := 0, slots := 0, locals := 0 } : Room)) (fun a_ U_ => a_ = #[(.ref a)] ∧ Z.Warmed39 U_.vm ∧ U_.heap = h0) (fun _ _ _ _ _ => True) (fun _ U_ o_ U'_ => ∃ v_ L_, o_ = .returned v_ ∧ QR (.int (0 : Int32)) h0 n0 v_ U'_.heap L_ ∧ FrameEnd U_ o_ U'_ L_ ({ frames := 0, cells := 0, slots := 0, locals := 0 } : Room).cells ({ frames := 0, cells := 0, slots := 0, locals := 0 } : Room).slots) := by
  refine MetFree.of_bodySF (plainFor_of_name pn_6) hisR ?_
  intro p e s m args below meth c s₁ Bd hml0 hP hK
  obtain ⟨rfl, hZ, hh⟩ := hP
  have hx := Bd.exec
  have hby := Bd.bytes
  have hml : c.maxLocals = 1 := hml0
  have hown : s.vm.findClass "com/example/hebelwerk/hebelwerk/engine/DatedValues" = some m.cls := findClass_of_methodNamed Bd.named
  have hnm := (name_of_methodNamed Bd.named Bd.method).1
  have hlk := BodyLoose.notSynchronized Bd
  have X0 : Stand p l e ({ frames := 0, cells := 0, slots := 0, locals := 0 } : Room) s m #[(.ref a)] below meth c s₁ [] 0 0 := Stand.of_body Bd
  have e0 : s₁.heap = h0 := by rw [← hh, Bd.state]; rfl
  have N0 := Fr.nil n0
  refine own_entry (P := own_End s (QR (.int (0 : Int32)) h0 n0) ({ frames := 0, cells := 0, slots := 0, locals := 0 } : Room).cells ({ frames := 0, cells := 0, slots := 0, locals := 0 } : Room).slots) (ef_rmIS3 m a) ?_
  show own_Go p e below _ s₁ (mkF m 0 #[.val (.ref a)] [])
  refine own_st (fun t_ k_ => XS.aloadN X0.here hx rfl (hb hby d19_0) rfl rfl k_) ?_
  show own_Go p e below _ s₁ (mkF m 1 #[.val (.ref a)] [(.ref a)])
  obtain ⟨T1, X1, e1, st1⟩ := getF X0 hx hZ hown (host := "") (Or.inl (hw _ (List.mem_of_getElem? (i := 110) rfl))) Via.refl e0 F1 (g := (mkF m 1 #[.val (.ref a)] [(.ref a)])) rfl rfl (hb hby d19_1)
  refine own_st st1 ?_
  show own_Go p e below _ T1 (mkF m 4 #[.val (.ref a)] [(.ref t1)])
  obtain ⟨cl2, Ar2, -, S2, N2', -, -⟩ := id Pj1
  refine own_st (fun t_ k_ => X1.arraylength hx (by rw [e1]; exact Ar2.1) (State.isArrayOf_alike hZ.alike Ar2.2.1) (g := (mkF m 4 #[.val (.ref a)] [(.ref t1)])) rfl rfl (hb hby d19_4) t_ k_) ?_
  rw [len_of S2 N2']
  show own_Go p e below _ T1 (mkF m 5 #[.val (.ref a)] [(.int (3 : Int32))])
  refine own_st (fun t_ k_ => XS.ifYes X1.here hx rfl (pc0 := 5) (pc' := 12) rfl (hb hby d19_5) rfl (by decide) (by decide) (by decide) k_) ?_
  show own_Go p e below _ T1 (mkF m 12 #[.val (.ref a)] [])
  refine own_st (fun t_ k_ => XS.iconst X1.here hx rfl (hb hby d19_12) k_) ?_
  show own_Go p e below _ T1 (mkF m 13 #[.val (.ref a)] [(.int (0 : Int32))])
  refine own_retN X1 hx hlk (t := .boolean) Bd.returns (by simp) (hb hby d19_13) ?_ (by decide) (by decide)
  show QR (.int (0 : Int32)) h0 n0 _ T1.heap _
  rw [e1]
  exact ⟨rfl, N0, rfl⟩
theorem ef_rmDT30 (m : MethodId) (x0 : Addr) (x1 : Int32) : entryFrame m #[(.ref x0), (.int x1)] 2 = mkF m 0 #[.val (.ref x0), .val (.int x1)] [] := by first | (simp [entryFrame, mkF, argsToLocals, Value.category]; done) | rfl
set_option maxRecDepth 65536 in
set_option maxHeartbeats 40000000 in
theorem rmDT30 (l : Launch) (Z : State) (a0 : Array Value) (hw : ∀ d ∈ tables_1, d.before a0 Z = true) (ws : List Jvm.Cond) (a t1 : Addr) (k1 : ClassId) (j0 j1 j2 : Int64) (cf rg iso : Addr) (h0 : Heap) (n0 : Nat) (Z0 : n0 ≤ h0.size) (O0 : Old Z n0 h0) (SEp : Sta Z Z.heap "java/time/temporal/ChronoField" "EPOCH_DAY" "Ljava/time/temporal/ChronoField;" (.ref cf)) (Ecf : Exa Z Z.heap cf "java/time/temporal/ChronoField") (Frg : Fld Z Z.heap cf "java/time/temporal/ChronoField" "range" "Ljava/time/temporal/ValueRange;" (.ref rg)) (Erg : Exa Z Z.heap rg "java/time/temporal/ValueRange") (Fmn : Fld Z Z.heap rg "java/time/temporal/ValueRange" "minSmallest" "J" (.long (-365243219162 : Int64))) (Fmx : Fld Z Z.heap rg "java/time/temporal/ValueRange" "maxLargest" "J" (.long (365241780471 : Int64))) (SIn : Sta Z Z.heap "java/time/chrono/IsoChronology" "INSTANCE" "Ljava/time/chrono/IsoChronology;" (.ref iso)) (Eis : Exa Z Z.heap iso "java/time/chrono/IsoChronology") (F1 : Fld Z h0 a "com/example/hebelwerk/hebelwerk/engine/DatedValues" "days" "[J" (.ref t1)) (Pj1 : Arv Z h0 t1 k1 .long (3 : Int32) [(.long j0), (.long j1), (.long j2)] (.long (0 : Int64))) (hd : -100000200000 ≤ j0.toInt ∧ j0.toInt ≤ 100000200000) :
    MetFree l (⟨"com/example/hebelwerk/hebelwerk/engine/DatedValues", "date", "(I)Ljava/time/LocalDate;"⟩ : MethodName) (head1 (Jvm.Cond.code (⟨"com/example/hebelwerk/hebelwerk/engine/DatedValues", "date", "(I)Ljava/time/LocalDate;"⟩ : MethodName) prog_19_method_7_code 2 (some (.object "java/time/LocalDate")) :: ws) ({ frames := 5, cells := 1, slots := 3, locals := 82 } : Room)) (fun a_ U_ => a_ = #[(.ref a), (.int (0 : Int32))] ∧ Z.Warmed39 U_.vm ∧ U_.heap = h0) (fun _ _ _ _ _ => True) (fun _ U_ o_ U'_ => ∃ v_ L_, o_ = .returned v_ ∧ QLD Z j0 h0 n0 v_ U'_.heap L_ ∧ FrameEnd U_ o_ U'_ L_ ({ frames := 5, cells := 1, slots := 3, locals := 82 } : Room).cells ({ frames := 5, cells := 1, slots := 3, locals := 82 } : Room).slots) := by
  refine MetFree.of_bodySF (plainFor_of_name pn_6) hisR ?_
  intro p e s m args below meth c s₁ Bd hml0 hP hK
  obtain ⟨rfl, hZ, hh⟩ := hP
  have hx := Bd.exec
  have hby := Bd.bytes
  have hml : c.maxLocals = 2 := hml0
  have hown : s.vm.findClass "com/example/hebelwerk/hebelwerk/engine/DatedValues" = some m.cls := findClass_of_methodNamed Bd.named
  have hnm := (name_of_methodNamed Bd.named Bd.method).1
  have hlk := BodyLoose.notSynchronized Bd
  have X0 : Stand p l e ({ frames := 5, cells := 1, slots := 3, locals := 82 } : Room) s m #[(.ref a), (.int (0 : Int32))] below meth c s₁ [] 0 0 := Stand.of_body Bd
  have e0 : s₁.heap = h0 := by rw [← hh, Bd.state]; rfl
  have N0 := Fr.nil n0
  refine own_entry (P := own_End s (QLD Z j0 h0 n0) ({ frames := 5, cells := 1, slots := 3, locals := 82 } : Room).cells ({ frames := 5, cells := 1, slots := 3, locals := 82 } : Room).slots) (ef_rmDT30 m a (0 : Int32)) ?_
  show own_Go p e below _ s₁ (mkF m 0 #[.val (.ref a), .val (.int (0 : Int32))] [])
  have c1_ := Exa.ext O0.2 Ecf
  have c2_ := Fld.ext O0.2 Frg
  have c3_ := Exa.ext O0.2 Erg
  have c4_ := Fld.ext O0.2 Fmn
  have c5_ := Fld.ext O0.2 Fmx
  have c6_ := Exa.ext O0.2 Eis
  refine own_st (fun t_ k_ => XS.aloadN X0.here hx rfl (hb hby d20_0) rfl rfl k_) ?_
  show own_Go p e below _ s₁ (mkF m 1 #[.val (.ref a), .val (.int (0 : Int32))] [(.ref a)])
  obtain ⟨T1, X1, e1, st1⟩ := getF X0 hx hZ hown (host := "") (Or.inl (hw _ (List.mem_of_getElem? (i := 110) rfl))) Via.refl e0 F1 (g := (mkF m 1 #[.val (.ref a), .val (.int (0 : Int32))] [(.ref a)])) rfl rfl (hb hby d20_1)
  refine own_st st1 ?_
  show own_Go p e below _ T1 (mkF m 4 #[.val (.ref a), .val (.int (0 : Int32))] [(.ref t1)])
  refine own_st (fun t_ k_ => XS.iloadN X1.here hx rfl (hb hby d20_4) rfl k_) ?_
  show own_Go p e below _ T1 (mkF m 5 #[.val (.ref a), .val (.int (0 : Int32))] [(.int (0 : Int32)), (.ref t1)])
  obtain ⟨cl2, Ar2, q2, S2, N2', H2, G2⟩ := id Pj1
  have hin2 : ¬ ((0 : Int32) < 0 ∨ cl2.slots.size ≤ ((0 : Int32)).toNatClampNeg) := inb_of S2 ⟨by decide, by decide⟩
  refine own_st (fun t_ k_ => X1.laload hx (j := (0 : Int32)) (v := (.long j0)) (by rw [e1]; exact Ar2.1) (State.isArrayOf_alike hZ.alike Ar2.2.1) Ar2.2.2 hin2 (Has.at H2 hin2 rfl) (g := (mkF m 5 #[.val (.ref a), .val (.int (0 : Int32))] [(.int (0 : Int32)), (.ref t1)])) rfl rfl (hb hby d20_5) t_ k_) ?_
  show own_Go p e below _ T1 (mkF m 6 #[.val (.ref a), .val (.int (0 : Int32))] [(.long j0)])
  refine own_callS X1 hx (y := (⟨"java/time/LocalDate", "ofEpochDay", "(J)Ljava/time/LocalDate;"⟩ : MethodName)) hown (mvT hZ (hw _ (List.mem_of_getElem? (i := 154) rfl))) (mvT hZ (hw _ (List.mem_of_getElem? (i := 3) rfl))) (mvT hZ (hw _ (List.mem_of_getElem? (i := 4) rfl))) (mvT hZ (hw _ (List.mem_of_getElem? (i := 5) rfl))) (by decide) (backOf (W := 0) (rmOE l Z a0 hw [] j0 cf rg iso h0 n0 (Nat.le_trans Z0 (Keep.refl h0 []).1) O0 SEp Ecf Frg Erg Fmn Fmx SIn Eis hd) hZ (hw _ (List.mem_of_getElem? (i := 5) rfl)) (hw _ (List.mem_of_getElem? (i := 4) rfl)) (by decide) (by decide)) (g := (mkF m 6 #[.val (.ref a), .val (.int (0 : Int32))] [(.long j0)])) rfl (by rw [hml]; rfl) (argsL := [(.long j0)]) (rest := []) (lenOf pd_11 rfl) rfl (by show 2 * 0 + _ ≤ _; exact Nat.le_of_eq rfl) (hb hby d20_6) rfl e1 (by decide) (by decide) ?_
  rintro v3 T3 L3 X3 ⟨o3, y3, mo3, kd3, rfl, Nq3, Kq3, go3, g_o3, Eo3, Fy3, Fm3, Fd3, hD3⟩
  have N3 := Fr.app N0 Nq3
  have K3 : Keep h0 T3.heap [] := (Keep.refl h0 []).trans Kq3 all0
  have sz_o3 : h0.size ≤ o3 := Nat.le_trans (Keep.refl h0 []).1 go3
  show own_Go p e below _ T3 (mkF m 9 #[.val (.ref a), .val (.int (0 : Int32))] [(.ref o3)])
  refine own_retA X3 hx hlk Bd.returns rfl rfl (hb hby d20_9) ?_ (by decide) (by decide)
  show QLD Z j0 h0 n0 _ T3.heap _
  exact ⟨o3, _, _, _, rfl, N3, K3, sz_o3, g_o3, Eo3, Fy3, Fm3, Fd3, hD3⟩
theorem ef_rmVL30 (m : MethodId) (x0 : Addr) (x1 : Int32) : entryFrame m #[(.ref x0), (.int x1)] 2 = mkF m 0 #[.val (.ref x0), .val (.int x1)] [] := by first | (simp [entryFrame, mkF, argsToLocals, Value.category]; done) | rfl
set_option maxRecDepth 65536 in
set_option maxHeartbeats 40000000 in
theorem rmVL30 (l : Launch) (Z : State) (a0 : Array Value) (hw : ∀ d ∈ tables_1, d.before a0 Z = true) (ws : List Jvm.Cond) (a t2 : Addr) (k2 : ClassId) (x0_ x1_ x2_ : UInt64) (h0 : Heap) (n0 : Nat) (Z0 : n0 ≤ h0.size) (F2 : Fld Z h0 a "com/example/hebelwerk/hebelwerk/engine/DatedValues" "values" "[D" (.ref t2)) (Pj2 : Arv Z h0 t2 k2 .double (3 : Int32) [(.double x0_), (.double x1_), (.double x2_)] (.double (0 : UInt64))) :
    MetFree l (⟨"com/example/hebelwerk/hebelwerk/engine/DatedValues", "value", "(I)D"⟩ : MethodName) (head1 (Jvm.Cond.code (⟨"com/example/hebelwerk/hebelwerk/engine/DatedValues", "value", "(I)D"⟩ : MethodName) prog_19_method_8_code 2 (some .double) :: ws) ({ frames := 0, cells := 0, slots := 0, locals := 0 } : Room)) (fun a_ U_ => a_ = #[(.ref a), (.int (0 : Int32))] ∧ Z.Warmed39 U_.vm ∧ U_.heap = h0) (fun _ _ _ _ _ => True) (fun _ U_ o_ U'_ => ∃ v_ L_, o_ = .returned v_ ∧ QR (.double x0_) h0 n0 v_ U'_.heap L_ ∧ FrameEnd U_ o_ U'_ L_ ({ frames := 0, cells := 0, slots := 0, locals := 0 } : Room).cells ({ frames := 0, cells := 0, slots := 0, locals := 0 } : Room).slots) := by
  refine MetFree.of_bodySF (plainFor_of_name pn_6) hisR ?_
  intro p e s m args below meth c s₁ Bd hml0 hP hK
  obtain ⟨rfl, hZ, hh⟩ := hP
  have hx := Bd.exec
  have hby := Bd.bytes
  have hml : c.maxLocals = 2 := hml0
  have hown : s.vm.findClass "com/example/hebelwerk/hebelwerk/engine/DatedValues" = some m.cls := findClass_of_methodNamed Bd.named
  have hnm := (name_of_methodNamed Bd.named Bd.method).1
  have hlk := BodyLoose.notSynchronized Bd
  have X0 : Stand p l e ({ frames := 0, cells := 0, slots := 0, locals := 0 } : Room) s m #[(.ref a), (.int (0 : Int32))] below meth c s₁ [] 0 0 := Stand.of_body Bd
  have e0 : s₁.heap = h0 := by rw [← hh, Bd.state]; rfl
  have N0 := Fr.nil n0
  refine own_entry (P := own_End s (QR (.double x0_) h0 n0) ({ frames := 0, cells := 0, slots := 0, locals := 0 } : Room).cells ({ frames := 0, cells := 0, slots := 0, locals := 0 } : Room).slots) (ef_rmVL30 m a (0 : Int32)) ?_
  show own_Go p e below _ s₁ (mkF m 0 #[.val (.ref a), .val (.int (0 : Int32))] [])
  refine own_st (fun t_ k_ => XS.aloadN X0.here hx rfl (hb hby d21_0) rfl rfl k_) ?_
  show own_Go p e below _ s₁ (mkF m 1 #[.val (.ref a), .val (.int (0 : Int32))] [(.ref a)])
  obtain ⟨T1, X1, e1, st1⟩ := getF X0 hx hZ hown (host := "") (Or.inl (hw _ (List.mem_of_getElem? (i := 112) rfl))) Via.refl e0 F2 (g := (mkF m 1 #[.val (.ref a), .val (.int (0 : Int32))] [(.ref a)])) rfl rfl (hb hby d21_1)
  refine own_st st1 ?_
  show own_Go p e below _ T1 (mkF m 4 #[.val (.ref a), .val (.int (0 : Int32))] [(.ref t2)])
  refine own_st (fun t_ k_ => XS.iloadN X1.here hx rfl (hb hby d21_4) rfl k_) ?_
  show own_Go p e below _ T1 (mkF m 5 #[.val (.ref a), .val (.int (0 : Int32))] [(.int (0 : Int32)), (.ref t2)])
  obtain ⟨cl2, Ar2, q2, S2, N2', H2, G2⟩ := id Pj2
  have hin2 : ¬ ((0 : Int32) < 0 ∨ cl2.slots.size ≤ ((0 : Int32)).toNatClampNeg) := inb_of S2 ⟨by decide, by decide⟩
  refine own_st (fun t_ k_ => X1.daload hx (j := (0 : Int32)) (v := (.double x0_)) (by rw [e1]; exact Ar2.1) (State.isArrayOf_alike hZ.alike Ar2.2.1) Ar2.2.2 hin2 (Has.at H2 hin2 rfl) (g := (mkF m 5 #[.val (.ref a), .val (.int (0 : Int32))] [(.int (0 : Int32)), (.ref t2)])) rfl rfl (hb hby d21_5) t_ k_) ?_
  show own_Go p e below _ T1 (mkF m 6 #[.val (.ref a), .val (.int (0 : Int32))] [(.double x0_)])
  refine own_retD X1 hx hlk Bd.returns (hb hby d21_6) ?_ (by decide) (by decide)
  show QR (.double x0_) h0 n0 _ T1.heap _
  rw [e1]
  exact ⟨rfl, N0, rfl⟩
theorem ef_rmDT31 (m : MethodId) (x0 : Addr) (x1 : Int32) : entryFrame m #[(.ref x0), (.int x1)] 2 = mkF m 0 #[.val (.ref x0), .val (.int x1)] [] := by first | (simp [entryFrame, mkF, argsToLocals, Value.category]; done) | rfl
set_option maxRecDepth 65536 in
set_option maxHeartbeats 40000000 in
theorem rmDT31 (l : Launch) (Z : State) (a0 : Array Value) (hw : ∀ d ∈ tables_1, d.before a0 Z = true) (ws : List Jvm.Cond) (a t1 : Addr) (k1 : ClassId) (j0 j1 j2 : Int64) (cf rg iso : Addr) (h0 : Heap) (n0 : Nat) (Z0 : n0 ≤ h0.size) (O0 : Old Z n0 h0) (SEp : Sta Z Z.heap "java/time/temporal/ChronoField" "EPOCH_DAY" "Ljava/time/temporal/ChronoField;" (.ref cf)) (Ecf : Exa Z Z.heap cf "java/time/temporal/ChronoField") (Frg : Fld Z Z.heap cf "java/time/temporal/ChronoField" "range" "Ljava/time/temporal/ValueRange;" (.ref rg)) (Erg : Exa Z Z.heap rg "java/time/temporal/ValueRange") (Fmn : Fld Z Z.heap rg "java/time/temporal/ValueRange" "minSmallest" "J" (.long (-365243219162 : Int64))) (Fmx : Fld Z Z.heap rg "java/time/temporal/ValueRange" "maxLargest" "J" (.long (365241780471 : Int64))) (SIn : Sta Z Z.heap "java/time/chrono/IsoChronology" "INSTANCE" "Ljava/time/chrono/IsoChronology;" (.ref iso)) (Eis : Exa Z Z.heap iso "java/time/chrono/IsoChronology") (F1 : Fld Z h0 a "com/example/hebelwerk/hebelwerk/engine/DatedValues" "days" "[J" (.ref t1)) (Pj1 : Arv Z h0 t1 k1 .long (3 : Int32) [(.long j0), (.long j1), (.long j2)] (.long (0 : Int64))) (hd : -100000200000 ≤ j1.toInt ∧ j1.toInt ≤ 100000200000) :
    MetFree l (⟨"com/example/hebelwerk/hebelwerk/engine/DatedValues", "date", "(I)Ljava/time/LocalDate;"⟩ : MethodName) (head1 (Jvm.Cond.code (⟨"com/example/hebelwerk/hebelwerk/engine/DatedValues", "date", "(I)Ljava/time/LocalDate;"⟩ : MethodName) prog_19_method_7_code 2 (some (.object "java/time/LocalDate")) :: ws) ({ frames := 5, cells := 1, slots := 3, locals := 82 } : Room)) (fun a_ U_ => a_ = #[(.ref a), (.int (1 : Int32))] ∧ Z.Warmed39 U_.vm ∧ U_.heap = h0) (fun _ _ _ _ _ => True) (fun _ U_ o_ U'_ => ∃ v_ L_, o_ = .returned v_ ∧ QLD Z j1 h0 n0 v_ U'_.heap L_ ∧ FrameEnd U_ o_ U'_ L_ ({ frames := 5, cells := 1, slots := 3, locals := 82 } : Room).cells ({ frames := 5, cells := 1, slots := 3, locals := 82 } : Room).slots) := by
  refine MetFree.of_bodySF (plainFor_of_name pn_6) hisR ?_
  intro p e s m args below meth c s₁ Bd hml0 hP hK
  obtain ⟨rfl, hZ, hh⟩ := hP
  have hx := Bd.exec
  have hby := Bd.bytes
  have hml : c.maxLocals = 2 := hml0
  have hown : s.vm.findClass "com/example/hebelwerk/hebelwerk/engine/DatedValues" = some m.cls := findClass_of_methodNamed Bd.named
  have hnm := (name_of_methodNamed Bd.named Bd.method).1
  have hlk := BodyLoose.notSynchronized Bd
  have X0 : Stand p l e ({ frames := 5, cells := 1, slots := 3, locals := 82 } : Room) s m #[(.ref a), (.int (1 : Int32))] below meth c s₁ [] 0 0 := Stand.of_body Bd
  have e0 : s₁.heap = h0 := by rw [← hh, Bd.state]; rfl
  have N0 := Fr.nil n0
  refine own_entry (P := own_End s (QLD Z j1 h0 n0) ({ frames := 5, cells := 1, slots := 3, locals := 82 } : Room).cells ({ frames := 5, cells := 1, slots := 3, locals := 82 } : Room).slots) (ef_rmDT31 m a (1 : Int32)) ?_
  show own_Go p e below _ s₁ (mkF m 0 #[.val (.ref a), .val (.int (1 : Int32))] [])
  have c1_ := Exa.ext O0.2 Ecf
  have c2_ := Fld.ext O0.2 Frg
  have c3_ := Exa.ext O0.2 Erg
  have c4_ := Fld.ext O0.2 Fmn
  have c5_ := Fld.ext O0.2 Fmx
  have c6_ := Exa.ext O0.2 Eis
  refine own_st (fun t_ k_ => XS.aloadN X0.here hx rfl (hb hby d20_0) rfl rfl k_) ?_
  show own_Go p e below _ s₁ (mkF m 1 #[.val (.ref a), .val (.int (1 : Int32))] [(.ref a)])
  obtain ⟨T1, X1, e1, st1⟩ := getF X0 hx hZ hown (host := "") (Or.inl (hw _ (List.mem_of_getElem? (i := 110) rfl))) Via.refl e0 F1 (g := (mkF m 1 #[.val (.ref a), .val (.int (1 : Int32))] [(.ref a)])) rfl rfl (hb hby d20_1)
  refine own_st st1 ?_
  show own_Go p e below _ T1 (mkF m 4 #[.val (.ref a), .val (.int (1 : Int32))] [(.ref t1)])
  refine own_st (fun t_ k_ => XS.iloadN X1.here hx rfl (hb hby d20_4) rfl k_) ?_
  show own_Go p e below _ T1 (mkF m 5 #[.val (.ref a), .val (.int (1 : Int32))] [(.int (1 : Int32)), (.ref t1)])
  obtain ⟨cl2, Ar2, q2, S2, N2', H2, G2⟩ := id Pj1
  have hin2 : ¬ ((1 : Int32) < 0 ∨ cl2.slots.size ≤ ((1 : Int32)).toNatClampNeg) := inb_of S2 ⟨by decide, by decide⟩
  refine own_st (fun t_ k_ => X1.laload hx (j := (1 : Int32)) (v := (.long j1)) (by rw [e1]; exact Ar2.1) (State.isArrayOf_alike hZ.alike Ar2.2.1) Ar2.2.2 hin2 (Has.at H2 hin2 rfl) (g := (mkF m 5 #[.val (.ref a), .val (.int (1 : Int32))] [(.int (1 : Int32)), (.ref t1)])) rfl rfl (hb hby d20_5) t_ k_) ?_
  show own_Go p e below _ T1 (mkF m 6 #[.val (.ref a), .val (.int (1 : Int32))] [(.long j1)])
  refine own_callS X1 hx (y := (⟨"java/time/LocalDate", "ofEpochDay", "(J)Ljava/time/LocalDate;"⟩ : MethodName)) hown (mvT hZ (hw _ (List.mem_of_getElem? (i := 154) rfl))) (mvT hZ (hw _ (List.mem_of_getElem? (i := 3) rfl))) (mvT hZ (hw _ (List.mem_of_getElem? (i := 4) rfl))) (mvT hZ (hw _ (List.mem_of_getElem? (i := 5) rfl))) (by decide) (backOf (W := 0) (rmOE l Z a0 hw [] j1 cf rg iso h0 n0 (Nat.le_trans Z0 (Keep.refl h0 []).1) O0 SEp Ecf Frg Erg Fmn Fmx SIn Eis hd) hZ (hw _ (List.mem_of_getElem? (i := 5) rfl)) (hw _ (List.mem_of_getElem? (i := 4) rfl)) (by decide) (by decide)) (g := (mkF m 6 #[.val (.ref a), .val (.int (1 : Int32))] [(.long j1)])) rfl (by rw [hml]; rfl) (argsL := [(.long j1)]) (rest := []) (lenOf pd_11 rfl) rfl (by show 2 * 0 + _ ≤ _; exact Nat.le_of_eq rfl) (hb hby d20_6) rfl e1 (by decide) (by decide) ?_
  rintro v3 T3 L3 X3 ⟨o3, y3, mo3, kd3, rfl, Nq3, Kq3, go3, g_o3, Eo3, Fy3, Fm3, Fd3, hD3⟩
  have N3 := Fr.app N0 Nq3
  have K3 : Keep h0 T3.heap [] := (Keep.refl h0 []).trans Kq3 all0
  have sz_o3 : h0.size ≤ o3 := Nat.le_trans (Keep.refl h0 []).1 go3
  show own_Go p e below _ T3 (mkF m 9 #[.val (.ref a), .val (.int (1 : Int32))] [(.ref o3)])
  refine own_retA X3 hx hlk Bd.returns rfl rfl (hb hby d20_9) ?_ (by decide) (by decide)
  show QLD Z j1 h0 n0 _ T3.heap _
  exact ⟨o3, _, _, _, rfl, N3, K3, sz_o3, g_o3, Eo3, Fy3, Fm3, Fd3, hD3⟩
theorem ef_rmVL31 (m : MethodId) (x0 : Addr) (x1 : Int32) : entryFrame m #[(.ref x0), (.int x1)] 2 = mkF m 0 #[.val (.ref x0), .val (.int x1)] [] := by first | (simp [entryFrame, mkF, argsToLocals, Value.category]; done) | rfl
set_option maxRecDepth 65536 in
set_option maxHeartbeats 40000000 in
theorem rmVL31 (l : Launch) (Z : State) (a0 : Array Value) (hw : ∀ d ∈ tables_1, d.before a0 Z = true) (ws : List Jvm.Cond) (a t2 : Addr) (k2 : ClassId) (x0_ x1_ x2_ : UInt64) (h0 : Heap) (n0 : Nat) (Z0 : n0 ≤ h0.size) (F2 : Fld Z h0 a "com/example/hebelwerk/hebelwerk/engine/DatedValues" "values" "[D" (.ref t2)) (Pj2 : Arv Z h0 t2 k2 .double (3 : Int32) [(.double x0_), (.double x1_), (.double x2_)] (.double (0 : UInt64))) :
    MetFree l (⟨"com/example/hebelwerk/hebelwerk/engine/DatedValues", "value", "(I)D"⟩ : MethodName) (head1 (Jvm.Cond.code (⟨"com/example/hebelwerk/hebelwerk/engine/DatedValues", "value", "(I)D"⟩ : MethodName) prog_19_method_8_code 2 (some .double) :: ws) ({ frames := 0, cells := 0, slots := 0, locals := 0 } : Room)) (fun a_ U_ => a_ = #[(.ref a), (.int (1 : Int32))] ∧ Z.Warmed39 U_.vm ∧ U_.heap = h0) (fun _ _ _ _ _ => True) (fun _ U_ o_ U'_ => ∃ v_ L_, o_ = .returned v_ ∧ QR (.double x1_) h0 n0 v_ U'_.heap L_ ∧ FrameEnd U_ o_ U'_ L_ ({ frames := 0, cells := 0, slots := 0, locals := 0 } : Room).cells ({ frames := 0, cells := 0, slots := 0, locals := 0 } : Room).slots) := by
  refine MetFree.of_bodySF (plainFor_of_name pn_6) hisR ?_
  intro p e s m args below meth c s₁ Bd hml0 hP hK
  obtain ⟨rfl, hZ, hh⟩ := hP
  have hx := Bd.exec
  have hby := Bd.bytes
  have hml : c.maxLocals = 2 := hml0
  have hown : s.vm.findClass "com/example/hebelwerk/hebelwerk/engine/DatedValues" = some m.cls := findClass_of_methodNamed Bd.named
  have hnm := (name_of_methodNamed Bd.named Bd.method).1
  have hlk := BodyLoose.notSynchronized Bd
  have X0 : Stand p l e ({ frames := 0, cells := 0, slots := 0, locals := 0 } : Room) s m #[(.ref a), (.int (1 : Int32))] below meth c s₁ [] 0 0 := Stand.of_body Bd
  have e0 : s₁.heap = h0 := by rw [← hh, Bd.state]; rfl
  have N0 := Fr.nil n0
  refine own_entry (P := own_End s (QR (.double x1_) h0 n0) ({ frames := 0, cells := 0, slots := 0, locals := 0 } : Room).cells ({ frames := 0, cells := 0, slots := 0, locals := 0 } : Room).slots) (ef_rmVL31 m a (1 : Int32)) ?_
  show own_Go p e below _ s₁ (mkF m 0 #[.val (.ref a), .val (.int (1 : Int32))] [])
  refine own_st (fun t_ k_ => XS.aloadN X0.here hx rfl (hb hby d21_0) rfl rfl k_) ?_
  show own_Go p e below _ s₁ (mkF m 1 #[.val (.ref a), .val (.int (1 : Int32))] [(.ref a)])
  obtain ⟨T1, X1, e1, st1⟩ := getF X0 hx hZ hown (host := "") (Or.inl (hw _ (List.mem_of_getElem? (i := 112) rfl))) Via.refl e0 F2 (g := (mkF m 1 #[.val (.ref a), .val (.int (1 : Int32))] [(.ref a)])) rfl rfl (hb hby d21_1)
  refine own_st st1 ?_
  show own_Go p e below _ T1 (mkF m 4 #[.val (.ref a), .val (.int (1 : Int32))] [(.ref t2)])
  refine own_st (fun t_ k_ => XS.iloadN X1.here hx rfl (hb hby d21_4) rfl k_) ?_
  show own_Go p e below _ T1 (mkF m 5 #[.val (.ref a), .val (.int (1 : Int32))] [(.int (1 : Int32)), (.ref t2)])
  obtain ⟨cl2, Ar2, q2, S2, N2', H2, G2⟩ := id Pj2
  have hin2 : ¬ ((1 : Int32) < 0 ∨ cl2.slots.size ≤ ((1 : Int32)).toNatClampNeg) := inb_of S2 ⟨by decide, by decide⟩
  refine own_st (fun t_ k_ => X1.daload hx (j := (1 : Int32)) (v := (.double x1_)) (by rw [e1]; exact Ar2.1) (State.isArrayOf_alike hZ.alike Ar2.2.1) Ar2.2.2 hin2 (Has.at H2 hin2 rfl) (g := (mkF m 5 #[.val (.ref a), .val (.int (1 : Int32))] [(.int (1 : Int32)), (.ref t2)])) rfl rfl (hb hby d21_5) t_ k_) ?_
  show own_Go p e below _ T1 (mkF m 6 #[.val (.ref a), .val (.int (1 : Int32))] [(.double x1_)])
  refine own_retD X1 hx hlk Bd.returns (hb hby d21_6) ?_ (by decide) (by decide)
  show QR (.double x1_) h0 n0 _ T1.heap _
  rw [e1]
  exact ⟨rfl, N0, rfl⟩
theorem ef_rmDT32 (m : MethodId) (x0 : Addr) (x1 : Int32) : entryFrame m #[(.ref x0), (.int x1)] 2 = mkF m 0 #[.val (.ref x0), .val (.int x1)] [] := by first | (simp [entryFrame, mkF, argsToLocals, Value.category]; done) | rfl
set_option maxRecDepth 65536 in
set_option maxHeartbeats 40000000 in
theorem rmDT32 (l : Launch) (Z : State) (a0 : Array Value) (hw : ∀ d ∈ tables_1, d.before a0 Z = true) (ws : List Jvm.Cond) (a t1 : Addr) (k1 : ClassId) (j0 j1 j2 : Int64) (cf rg iso : Addr) (h0 : Heap) (n0 : Nat) (Z0 : n0 ≤ h0.size) (O0 : Old Z n0 h0) (SEp : Sta Z Z.heap "java/time/temporal/ChronoField" "EPOCH_DAY" "Ljava/time/temporal/ChronoField;" (.ref cf)) (Ecf : Exa Z Z.heap cf "java/time/temporal/ChronoField") (Frg : Fld Z Z.heap cf "java/time/temporal/ChronoField" "range" "Ljava/time/temporal/ValueRange;" (.ref rg)) (Erg : Exa Z Z.heap rg "java/time/temporal/ValueRange") (Fmn : Fld Z Z.heap rg "java/time/temporal/ValueRange" "minSmallest" "J" (.long (-365243219162 : Int64))) (Fmx : Fld Z Z.heap rg "java/time/temporal/ValueRange" "maxLargest" "J" (.long (365241780471 : Int64))) (SIn : Sta Z Z.heap "java/time/chrono/IsoChronology" "INSTANCE" "Ljava/time/chrono/IsoChronology;" (.ref iso)) (Eis : Exa Z Z.heap iso "java/time/chrono/IsoChronology") (F1 : Fld Z h0 a "com/example/hebelwerk/hebelwerk/engine/DatedValues" "days" "[J" (.ref t1)) (Pj1 : Arv Z h0 t1 k1 .long (3 : Int32) [(.long j0), (.long j1), (.long j2)] (.long (0 : Int64))) (hd : -100000200000 ≤ j2.toInt ∧ j2.toInt ≤ 100000200000) :
    MetFree l (⟨"com/example/hebelwerk/hebelwerk/engine/DatedValues", "date", "(I)Ljava/time/LocalDate;"⟩ : MethodName) (head1 (Jvm.Cond.code (⟨"com/example/hebelwerk/hebelwerk/engine/DatedValues", "date", "(I)Ljava/time/LocalDate;"⟩ : MethodName) prog_19_method_7_code 2 (some (.object "java/time/LocalDate")) :: ws) ({ frames := 5, cells := 1, slots := 3, locals := 82 } : Room)) (fun a_ U_ => a_ = #[(.ref a), (.int (2 : Int32))] ∧ Z.Warmed39 U_.vm ∧ U_.heap = h0) (fun _ _ _ _ _ => True) (fun _ U_ o_ U'_ => ∃ v_ L_, o_ = .returned v_ ∧ QLD Z j2 h0 n0 v_ U'_.heap L_ ∧ FrameEnd U_ o_ U'_ L_ ({ frames := 5, cells := 1, slots := 3, locals := 82 } : Room).cells ({ frames := 5, cells := 1, slots := 3, locals := 82 } : Room).slots) := by
  refine MetFree.of_bodySF (plainFor_of_name pn_6) hisR ?_
  intro p e s m args below meth c s₁ Bd hml0 hP hK
  obtain ⟨rfl, hZ, hh⟩ := hP
  have hx := Bd.exec
  have hby := Bd.bytes
  have hml : c.maxLocals = 2 := hml0
  have hown : s.vm.findClass "com/example/hebelwerk/hebelwerk/engine/DatedValues" = some m.cls := findClass_of_methodNamed Bd.named
  have hnm := (name_of_methodNamed Bd.named Bd.method).1
  have hlk := BodyLoose.notSynchronized Bd
  have X0 : Stand p l e ({ frames := 5, cells := 1, slots := 3, locals := 82 } : Room) s m #[(.ref a), (.int (2 : Int32))] below meth c s₁ [] 0 0 := Stand.of_body Bd
  have e0 : s₁.heap = h0 := by rw [← hh, Bd.state]; rfl
  have N0 := Fr.nil n0
  refine own_entry (P := own_End s (QLD Z j2 h0 n0) ({ frames := 5, cells := 1, slots := 3, locals := 82 } : Room).cells ({ frames := 5, cells := 1, slots := 3, locals := 82 } : Room).slots) (ef_rmDT32 m a (2 : Int32)) ?_
  show own_Go p e below _ s₁ (mkF m 0 #[.val (.ref a), .val (.int (2 : Int32))] [])
  have c1_ := Exa.ext O0.2 Ecf
  have c2_ := Fld.ext O0.2 Frg
  have c3_ := Exa.ext O0.2 Erg
  have c4_ := Fld.ext O0.2 Fmn
  have c5_ := Fld.ext O0.2 Fmx
  have c6_ := Exa.ext O0.2 Eis
  refine own_st (fun t_ k_ => XS.aloadN X0.here hx rfl (hb hby d20_0) rfl rfl k_) ?_
  show own_Go p e below _ s₁ (mkF m 1 #[.val (.ref a), .val (.int (2 : Int32))] [(.ref a)])
  obtain ⟨T1, X1, e1, st1⟩ := getF X0 hx hZ hown (host := "") (Or.inl (hw _ (List.mem_of_getElem? (i := 110) rfl))) Via.refl e0 F1 (g := (mkF m 1 #[.val (.ref a), .val (.int (2 : Int32))] [(.ref a)])) rfl rfl (hb hby d20_1)
  refine own_st st1 ?_
  show own_Go p e below _ T1 (mkF m 4 #[.val (.ref a), .val (.int (2 : Int32))] [(.ref t1)])
  refine own_st (fun t_ k_ => XS.iloadN X1.here hx rfl (hb hby d20_4) rfl k_) ?_
  show own_Go p e below _ T1 (mkF m 5 #[.val (.ref a), .val (.int (2 : Int32))] [(.int (2 : Int32)), (.ref t1)])
  obtain ⟨cl2, Ar2, q2, S2, N2', H2, G2⟩ := id Pj1
  have hin2 : ¬ ((2 : Int32) < 0 ∨ cl2.slots.size ≤ ((2 : Int32)).toNatClampNeg) := inb_of S2 ⟨by decide, by decide⟩
  refine own_st (fun t_ k_ => X1.laload hx (j := (2 : Int32)) (v := (.long j2)) (by rw [e1]; exact Ar2.1) (State.isArrayOf_alike hZ.alike Ar2.2.1) Ar2.2.2 hin2 (Has.at H2 hin2 rfl) (g := (mkF m 5 #[.val (.ref a), .val (.int (2 : Int32))] [(.int (2 : Int32)), (.ref t1)])) rfl rfl (hb hby d20_5) t_ k_) ?_
  show own_Go p e below _ T1 (mkF m 6 #[.val (.ref a), .val (.int (2 : Int32))] [(.long j2)])
  refine own_callS X1 hx (y := (⟨"java/time/LocalDate", "ofEpochDay", "(J)Ljava/time/LocalDate;"⟩ : MethodName)) hown (mvT hZ (hw _ (List.mem_of_getElem? (i := 154) rfl))) (mvT hZ (hw _ (List.mem_of_getElem? (i := 3) rfl))) (mvT hZ (hw _ (List.mem_of_getElem? (i := 4) rfl))) (mvT hZ (hw _ (List.mem_of_getElem? (i := 5) rfl))) (by decide) (backOf (W := 0) (rmOE l Z a0 hw [] j2 cf rg iso h0 n0 (Nat.le_trans Z0 (Keep.refl h0 []).1) O0 SEp Ecf Frg Erg Fmn Fmx SIn Eis hd) hZ (hw _ (List.mem_of_getElem? (i := 5) rfl)) (hw _ (List.mem_of_getElem? (i := 4) rfl)) (by decide) (by decide)) (g := (mkF m 6 #[.val (.ref a), .val (.int (2 : Int32))] [(.long j2)])) rfl (by rw [hml]; rfl) (argsL := [(.long j2)]) (rest := []) (lenOf pd_11 rfl) rfl (by show 2 * 0 + _ ≤ _; exact Nat.le_of_eq rfl) (hb hby d20_6) rfl e1 (by decide) (by decide) ?_
  rintro v3 T3 L3 X3 ⟨o3, y3, mo3, kd3, rfl, Nq3, Kq3, go3, g_o3, Eo3, Fy3, Fm3, Fd3, hD3⟩
  have N3 := Fr.app N0 Nq3
  have K3 : Keep h0 T3.heap [] := (Keep.refl h0 []).trans Kq3 all0
  have sz_o3 : h0.size ≤ o3 := Nat.le_trans (Keep.refl h0 []).1 go3
  show own_Go p e below _ T3 (mkF m 9 #[.val (.ref a), .val (.int (2 : Int32))] [(.ref o3)])
  refine own_retA X3 hx hlk Bd.returns rfl rfl (hb hby d20_9) ?_ (by decide) (by decide)
  show QLD Z j2 h0 n0 _ T3.heap _
  exact ⟨o3, _, _, _, rfl, N3, K3, sz_o3, g_o3, Eo3, Fy3, Fm3, Fd3, hD3⟩
theorem ef_rmVL32 (m : MethodId) (x0 : Addr) (x1 : Int32) : entryFrame m #[(.ref x0), (.int x1)] 2 = mkF m 0 #[.val (.ref x0), .val (.int x1)] [] := by first | (simp [entryFrame, mkF, argsToLocals, Value.category]; done) | rfl
set_option maxRecDepth 65536 in
set_option maxHeartbeats 40000000 in
theorem rmVL32 (l : Launch) (Z : State) (a0 : Array Value) (hw : ∀ d ∈ tables_1, d.before a0 Z = true) (ws : List Jvm.Cond) (a t2 : Addr) (k2 : ClassId) (x0_ x1_ x2_ : UInt64) (h0 : Heap) (n0 : Nat) (Z0 : n0 ≤ h0.size) (F2 : Fld Z h0 a "com/example/hebelwerk/hebelwerk/engine/DatedValues" "values" "[D" (.ref t2)) (Pj2 : Arv Z h0 t2 k2 .double (3 : Int32) [(.double x0_), (.double x1_), (.double x2_)] (.double (0 : UInt64))) :
    MetFree l (⟨"com/example/hebelwerk/hebelwerk/engine/DatedValues", "value", "(I)D"⟩ : MethodName) (head1 (Jvm.Cond.code (⟨"com/example/hebelwerk/hebelwerk/engine/DatedValues", "value", "(I)D"⟩ : MethodName) prog_19_method_8_code 2 (some .double) :: ws) ({ frames := 0, cells := 0, slots := 0, locals := 0 } : Room)) (fun a_ U_ => a_ = #[(.ref a), (.int (2 : Int32))] ∧ Z.Warmed39 U_.vm ∧ U_.heap = h0) (fun _ _ _ _ _ => True) (fun _ U_ o_ U'_ => ∃ v_ L_, o_ = .returned v_ ∧ QR (.double x2_) h0 n0 v_ U'_.heap L_ ∧ FrameEnd U_ o_ U'_ L_ ({ frames := 0, cells := 0, slots := 0, locals := 0 } : Room).cells ({ frames := 0, cells := 0, slots := 0, locals := 0 } : Room).slots) := by
  refine MetFree.of_bodySF (plainFor_of_name pn_6) hisR ?_
  intro p e s m args below meth c s₁ Bd hml0 hP hK
  obtain ⟨rfl, hZ, hh⟩ := hP
  have hx := Bd.exec
  have hby := Bd.bytes
  have hml : c.maxLocals = 2 := hml0
  have hown : s.vm.findClass "com/example/hebelwerk/hebelwerk/engine/DatedValues" = some m.cls := findClass_of_methodNamed Bd.named
  have hnm := (name_of_methodNamed Bd.named Bd.method).1
  have hlk := BodyLoose.notSynchronized Bd
  have X0 : Stand p l e ({ frames := 0, cells := 0, slots := 0, locals := 0 } : Room) s m #[(.ref a), (.int (2 : Int32))] below meth c s₁ [] 0 0 := Stand.of_body Bd
  have e0 : s₁.heap = h0 := by rw [← hh, Bd.state]; rfl
  have N0 := Fr.nil n0
  refine own_entry (P := own_End s (QR (.double x2_) h0 n0) ({ frames := 0, cells := 0, slots := 0, locals := 0 } : Room).cells ({ frames := 0, cells := 0, slots := 0, locals := 0 } : Room).slots) (ef_rmVL32 m a (2 : Int32)) ?_
  show own_Go p e below _ s₁ (mkF m 0 #[.val (.ref a), .val (.int (2 : Int32))] [])
  refine own_st (fun t_ k_ => XS.aloadN X0.here hx rfl (hb hby d21_0) rfl rfl k_) ?_
  show own_Go p e below _ s₁ (mkF m 1 #[.val (.ref a), .val (.int (2 : Int32))] [(.ref a)])
  obtain ⟨T1, X1, e1, st1⟩ := getF X0 hx hZ hown (host := "") (Or.inl (hw _ (List.mem_of_getElem? (i := 112) rfl))) Via.refl e0 F2 (g := (mkF m 1 #[.val (.ref a), .val (.int (2 : Int32))] [(.ref a)])) rfl rfl (hb hby d21_1)
  refine own_st st1 ?_
  show own_Go p e below _ T1 (mkF m 4 #[.val (.ref a), .val (.int (2 : Int32))] [(.ref t2)])
  refine own_st (fun t_ k_ => XS.iloadN X1.here hx rfl (hb hby d21_4) rfl k_) ?_
  show own_Go p e below _ T1 (mkF m 5 #[.val (.ref a), .val (.int (2 : Int32))] [(.int (2 : Int32)), (.ref t2)])
  obtain ⟨cl2, Ar2, q2, S2, N2', H2, G2⟩ := id Pj2
  have hin2 : ¬ ((2 : Int32) < 0 ∨ cl2.slots.size ≤ ((2 : Int32)).toNatClampNeg) := inb_of S2 ⟨by decide, by decide⟩
  refine own_st (fun t_ k_ => X1.daload hx (j := (2 : Int32)) (v := (.double x2_)) (by rw [e1]; exact Ar2.1) (State.isArrayOf_alike hZ.alike Ar2.2.1) Ar2.2.2 hin2 (Has.at H2 hin2 rfl) (g := (mkF m 5 #[.val (.ref a), .val (.int (2 : Int32))] [(.int (2 : Int32)), (.ref t2)])) rfl rfl (hb hby d21_5) t_ k_) ?_
  show own_Go p e below _ T1 (mkF m 6 #[.val (.ref a), .val (.int (2 : Int32))] [(.double x2_)])
  refine own_retD X1 hx hlk Bd.returns (hb hby d21_6) ?_ (by decide) (by decide)
  show QR (.double x2_) h0 n0 _ T1.heap _
  rw [e1]
  exact ⟨rfl, N0, rfl⟩
def QAD0 (Z : State) (b t1 t2 : Addr) (k1 k2 : ClassId) (d : Int64) (xd : UInt64) (j0 j1 j2 : Int64) (x0_ x1_ x2_ : UInt64) (h0 : Heap) (n0 : Nat) (v : Option Value) (h : Heap) (L : List Loc) : Prop := v = none ∧ Fr n0 L ∧ Keep h0 h [b, t1, t2] ∧ Exa Z h b "com/example/hebelwerk/hebelwerk/engine/DatedValues$Builder" ∧ Fld Z h b "com/example/hebelwerk/hebelwerk/engine/DatedValues$Builder" "days" "[J" (.ref t1) ∧ Fld Z h b "com/example/hebelwerk/hebelwerk/engine/DatedValues$Builder" "values" "[D" (.ref t2) ∧ Fld Z h b "com/example/hebelwerk/hebelwerk/engine/DatedValues$Builder" "size" "I" (.int (1 : Int32)) ∧ Arv Z h t1 k1 .long (256 : Int32) [(.long d), (.long j1), (.long j2)] (.long (0 : Int64)) ∧ Arv Z h t2 k2 .double (256 : Int32) [(.double xd), (.double x1_), (.double x2_)] (.double (0 : UInt64))
theorem d22_0 : decode prog_20_method_2_code 0 = .ok (.aload_n 1, 1) := by decide +kernel
theorem d22_1 : decode prog_20_method_2_code 1 = .ok (.invokevirtual 17, 3) := by decide +kernel
theorem d22_4 : decode prog_20_method_2_code 4 = .ok (.lstore 4, 2) := by decide +kernel
theorem d22_6 : decode prog_20_method_2_code 6 = .ok (.aload_n 0, 1) := by decide +kernel
theorem d22_7 : decode prog_20_method_2_code 7 = .ok (.getfield 23, 3) := by decide +kernel
theorem d22_10 : decode prog_20_method_2_code 10 = .ok (.ifCond .le 54, 3) := by decide +kernel
theorem d22_64 : decode prog_20_method_2_code 64 = .ok (.dload_n 2, 1) := by decide +kernel
theorem d22_65 : decode prog_20_method_2_code 65 = .ok (.invokestatic 46, 3) := by decide +kernel
theorem pd_12 : parseMethodDescriptor "(D)Z" = some ⟨[.double], some .boolean⟩ := by decide +kernel
theorem d22_68 : decode prog_20_method_2_code 68 = .ok (.ifCond .ne 21, 3) := by decide +kernel
theorem d22_89 : decode prog_20_method_2_code 89 = .ok (.aload_n 0, 1) := by decide +kernel
theorem d22_90 : decode prog_20_method_2_code 90 = .ok (.getfield 23, 3) := by decide +kernel
theorem d22_93 : decode prog_20_method_2_code 93 = .ok (.aload_n 0, 1) := by decide +kernel
theorem d22_94 : decode prog_20_method_2_code 94 = .ok (.getfield 7, 3) := by decide +kernel
theorem d22_97 : decode prog_20_method_2_code 97 = .ok (.arraylength, 1) := by decide +kernel
theorem d22_98 : decode prog_20_method_2_code 98 = .ok (.if_icmp .ne 37, 3) := by decide +kernel
theorem d22_135 : decode prog_20_method_2_code 135 = .ok (.aload_n 0, 1) := by decide +kernel
theorem d22_136 : decode prog_20_method_2_code 136 = .ok (.getfield 7, 3) := by decide +kernel
theorem d22_139 : decode prog_20_method_2_code 139 = .ok (.aload_n 0, 1) := by decide +kernel
theorem d22_140 : decode prog_20_method_2_code 140 = .ok (.getfield 23, 3) := by decide +kernel
theorem d22_143 : decode prog_20_method_2_code 143 = .ok (.lload 4, 2) := by decide +kernel
theorem d22_145 : decode prog_20_method_2_code 145 = .ok (.lastore, 1) := by decide +kernel
theorem d22_146 : decode prog_20_method_2_code 146 = .ok (.aload_n 0, 1) := by decide +kernel
theorem d22_147 : decode prog_20_method_2_code 147 = .ok (.getfield 13, 3) := by decide +kernel
theorem d22_150 : decode prog_20_method_2_code 150 = .ok (.aload_n 0, 1) := by decide +kernel
theorem d22_151 : decode prog_20_method_2_code 151 = .ok (.getfield 23, 3) := by decide +kernel
theorem d22_154 : decode prog_20_method_2_code 154 = .ok (.dload_n 2, 1) := by decide +kernel
theorem d22_155 : decode prog_20_method_2_code 155 = .ok (.dastore, 1) := by decide +kernel
theorem d22_156 : decode prog_20_method_2_code 156 = .ok (.aload_n 0, 1) := by decide +kernel
theorem d22_157 : decode prog_20_method_2_code 157 = .ok (.dup, 1) := by decide +kernel
theorem d22_158 : decode prog_20_method_2_code 158 = .ok (.getfield 23, 3) := by decide +kernel
theorem d22_161 : decode prog_20_method_2_code 161 = .ok (.iconst 1, 1) := by decide +kernel
theorem d22_162 : decode prog_20_method_2_code 162 = .ok (.iadd, 1) := by decide +kernel
theorem d22_163 : decode prog_20_method_2_code 163 = .ok (.putfield 23, 3) := by decide +kernel
theorem d22_166 : decode prog_20_method_2_code 166 = .ok (.return_, 1) := by decide +kernel
theorem ef_rmAD0 (m : MethodId) (x0 : Addr) (x1 : Addr) (x2 : UInt64) : entryFrame m #[(.ref x0), (.ref x1), (.double x2)] 6 = mkF m 0 #[.val (.ref x0), .val (.ref x1), .val (.double x2), .second, .unset, .unset] [] := by first | (simp [entryFrame, mkF, argsToLocals, Value.category]; done) | rfl
set_option maxRecDepth 65536 in
set_option maxHeartbeats 40000000 in
theorem rmAD0 (l : Launch) (Z : State) (a0 : Array Value) (hw : ∀ d ∈ tables_1, d.before a0 Z = true) (ws : List Jvm.Cond) (b t1 t2 : Addr) (k1 k2 : ClassId) (o : Addr) (y m_ k : Int32) (d : Int64) (xd : UInt64) (j0 j1 j2 : Int64) (x0_ x1_ x2_ : UInt64) (cf rg iso : Addr) (h0 : Heap) (n0 : Nat) (Z0 : n0 ≤ h0.size) (O0 : Old Z n0 h0) (SEp : Sta Z Z.heap "java/time/temporal/ChronoField" "EPOCH_DAY" "Ljava/time/temporal/ChronoField;" (.ref cf)) (Ecf : Exa Z Z.heap cf "java/time/temporal/ChronoField") (Frg : Fld Z Z.heap cf "java/time/temporal/ChronoField" "range" "Ljava/time/temporal/ValueRange;" (.ref rg)) (Erg : Exa Z Z.heap rg "java/time/temporal/ValueRange") (Fmn : Fld Z Z.heap rg "java/time/temporal/ValueRange" "minSmallest" "J" (.long (-365243219162 : Int64))) (Fmx : Fld Z Z.heap rg "java/time/temporal/ValueRange" "maxLargest" "J" (.long (365241780471 : Int64))) (SIn : Sta Z Z.heap "java/time/chrono/IsoChronology" "INSTANCE" "Ljava/time/chrono/IsoChronology;" (.ref iso)) (Eis : Exa Z Z.heap iso "java/time/chrono/IsoChronology") (g_b : n0 ≤ b) (g_t1 : n0 ≤ t1) (g_t2 : n0 ≤ t2) (Eb : Exa Z h0 b "com/example/hebelwerk/hebelwerk/engine/DatedValues$Builder") (F1 : Fld Z h0 b "com/example/hebelwerk/hebelwerk/engine/DatedValues$Builder" "days" "[J" (.ref t1)) (F2 : Fld Z h0 b "com/example/hebelwerk/hebelwerk/engine/DatedValues$Builder" "values" "[D" (.ref t2)) (F3 : Fld Z h0 b "com/example/hebelwerk/hebelwerk/engine/DatedValues$Builder" "size" "I" (.int (0 : Int32))) (Pj1 : Arv Z h0 t1 k1 .long (256 : Int32) [(.long j0), (.long j1), (.long j2)] (.long (0 : Int64))) (Pj2 : Arv Z h0 t2 k2 .double (256 : Int32) [(.double x0_), (.double x1_), (.double x2_)] (.double (0 : UInt64))) (Eo : Exa Z h0 o "java/time/LocalDate") (Fy : Fld Z h0 o "java/time/LocalDate" "year" "I" (.int y)) (Fm : Fld Z h0 o "java/time/LocalDate" "month" "S" (.int m_)) (Fd : Fld Z h0 o "java/time/LocalDate" "day" "S" (.int k)) (hD : own_D d.toInt y.toInt m_.toInt k.toInt) (hd : -100000200000 ≤ d.toInt ∧ d.toInt ≤ 100000200000) (hfin : Jvm.Free.Fl.Fin64 xd) :
    MetFree l (⟨"com/example/hebelwerk/hebelwerk/engine/DatedValues$Builder", "add", "(Ljava/time/LocalDate;D)V"⟩ : MethodName) (head1 (Jvm.Cond.code (⟨"com/example/hebelwerk/hebelwerk/engine/DatedValues$Builder", "add", "(Ljava/time/LocalDate;D)V"⟩ : MethodName) prog_20_method_2_code 6 none :: ws) ({ frames := 3, cells := 0, slots := 0, locals := 44 } : Room)) (fun a_ U_ => a_ = #[(.ref b), (.ref o), (.double xd)] ∧ Z.Warmed39 U_.vm ∧ U_.heap = h0) (fun _ _ _ _ _ => True) (fun _ U_ o_ U'_ => ∃ v_ L_, o_ = .returned v_ ∧ QAD0 Z b t1 t2 k1 k2 d xd j0 j1 j2 x0_ x1_ x2_ h0 n0 v_ U'_.heap L_ ∧ FrameEnd U_ o_ U'_ L_ ({ frames := 3, cells := 0, slots := 0, locals := 44 } : Room).cells ({ frames := 3, cells := 0, slots := 0, locals := 44 } : Room).slots) := by
  refine MetFree.of_bodySF (plainFor_of_name pn_5) hisR ?_
  intro p e s m args below meth c s₁ Bd hml0 hP hK
  obtain ⟨rfl, hZ, hh⟩ := hP
  have hx := Bd.exec
  have hby := Bd.bytes
  have hml : c.maxLocals = 6 := hml0
  have hown : s.vm.findClass "com/example/hebelwerk/hebelwerk/engine/DatedValues$Builder" = some m.cls := findClass_of_methodNamed Bd.named
  have hnm := (name_of_methodNamed Bd.named Bd.method).1
  have hlk := BodyLoose.notSynchronized Bd
  have X0 : Stand p l e ({ frames := 3, cells := 0, slots := 0, locals := 44 } : Room) s m #[(.ref b), (.ref o), (.double xd)] below meth c s₁ [] 0 0 := Stand.of_body Bd
  have e0 : s₁.heap = h0 := by rw [← hh, Bd.state]; rfl
  have N0 := Fr.nil n0
  refine own_entry (P := own_End s (QAD0 Z b t1 t2 k1 k2 d xd j0 j1 j2 x0_ x1_ x2_ h0 n0) ({ frames := 3, cells := 0, slots := 0, locals := 44 } : Room).cells ({ frames := 3, cells := 0, slots := 0, locals := 44 } : Room).slots) (ef_rmAD0 m b o xd) ?_
  show own_Go p e below _ s₁ (mkF m 0 #[.val (.ref b), .val (.ref o), .val (.double xd), .second, .unset, .unset] [])
  have c1_ := Exa.ext O0.2 Ecf
  have c2_ := Fld.ext O0.2 Frg
  have c3_ := Exa.ext O0.2 Erg
  have c4_ := Fld.ext O0.2 Fmn
  have c5_ := Fld.ext O0.2 Fmx
  have c6_ := Exa.ext O0.2 Eis
  refine own_st (fun t_ k_ => XS.aloadN X0.here hx rfl (hb hby d22_0) rfl rfl k_) ?_
  show own_Go p e below _ s₁ (mkF m 1 #[.val (.ref b), .val (.ref o), .val (.double xd), .second, .unset, .unset] [(.ref o)])
  obtain ⟨cq2, kq2, q2a, q2b, q2c⟩ := isOf hZ e0 Eo
  refine own_callV X0 hx (y := (⟨"java/time/LocalDate", "toEpochDay", "()J"⟩ : MethodName)) (z := (⟨"java/time/LocalDate", "toEpochDay", "()J"⟩ : MethodName)) hown (mvT hZ (hw _ (List.mem_of_getElem? (i := 129) rfl))) (mvT hZ (hw _ (List.mem_of_getElem? (i := 130) rfl))) (notFace_of_selects (args := #[]) (mvT hZ (hw _ (List.mem_of_getElem? (i := 132) rfl)))) (mvT hZ (hw _ (List.mem_of_getElem? (i := 132) rfl))) (mvT hZ (hw _ (List.mem_of_getElem? (i := 131) rfl))) (by decide) (backOf (W := 0) (rmTE l Z a0 hw [] o y m_ k d cf rg iso h0 n0 (Nat.le_trans Z0 (Keep.refl h0 [b, t1, t2]).1) O0 SEp Ecf Frg Erg Fmn Fmx SIn Eis Eo Fy Fm Fd hD hd) hZ (hw _ (List.mem_of_getElem? (i := 133) rfl)) (hw _ (List.mem_of_getElem? (i := 4) rfl)) (by decide) (by decide)) q2a q2c (g := (mkF m 1 #[.val (.ref b), .val (.ref o), .val (.double xd), .second, .unset, .unset] [(.ref o)])) rfl (by rw [hml]; rfl) (argsL := []) (rest := []) (lenOf pd_0 rfl) rfl (by show 2 * 0 + _ ≤ _; exact Nat.le_of_eq rfl) (hb hby d22_1) rfl e0 (by decide) (by decide) ?_
  rintro v1 T1 L1 X1 ⟨rfl, Nq1, hh1⟩
  have N1 := Fr.app N0 Nq1
  show own_Go p e below _ T1 (mkF m 4 #[.val (.ref b), .val (.ref o), .val (.double xd), .second, .unset, .unset] [(.long d)])
  refine own_st (fun t_ k_ => XS.lstore X1.here hx rfl (hb hby d22_4) rfl (l' := #[.val (.ref b), .val (.ref o), .val (.double xd), .second, .val (.long d), .second]) rfl k_) ?_
  show own_Go p e below _ T1 (mkF m 6 #[.val (.ref b), .val (.ref o), .val (.double xd), .second, .val (.long d), .second] [])
  refine own_st (fun t_ k_ => XS.aloadN X1.here hx rfl (hb hby d22_6) rfl rfl k_) ?_
  show own_Go p e below _ T1 (mkF m 7 #[.val (.ref b), .val (.ref o), .val (.double xd), .second, .val (.long d), .second] [(.ref b)])
  obtain ⟨T3, X3, e3, st3⟩ := getF X1 hx hZ hown (host := "") (Or.inl (hw _ (List.mem_of_getElem? (i := 89) rfl))) Via.refl hh1 F3 (g := (mkF m 7 #[.val (.ref b), .val (.ref o), .val (.double xd), .second, .val (.long d), .second] [(.ref b)])) rfl rfl (hb hby d22_7)
  refine own_st st3 ?_
  show own_Go p e below _ T3 (mkF m 10 #[.val (.ref b), .val (.ref o), .val (.double xd), .second, .val (.long d), .second] [(.int (0 : Int32))])
  refine own_st (fun t_ k_ => XS.ifYes X3.here hx rfl (pc0 := 10) (pc' := 64) rfl (hb hby d22_10) rfl (by decide) (by decide) (by decide) k_) ?_
  show own_Go p e below _ T3 (mkF m 64 #[.val (.ref b), .val (.ref o), .val (.double xd), .second, .val (.long d), .second] [])
  refine own_st (fun t_ k_ => XS.dloadN X3.here hx rfl (hb hby d22_64) rfl k_) ?_
  show own_Go p e below _ T3 (mkF m 65 #[.val (.ref b), .val (.ref o), .val (.double xd), .second, .val (.long d), .second] [(.double xd)])
  refine own_callS X3 hx (y := (⟨"java/lang/Double", "isFinite", "(D)Z"⟩ : MethodName)) hown (mvT hZ (hw _ (List.mem_of_getElem? (i := 141) rfl))) (mvT hZ (hw _ (List.mem_of_getElem? (i := 142) rfl))) (mvT hZ (hw _ (List.mem_of_getElem? (i := 143) rfl))) (mvT hZ (hw _ (List.mem_of_getElem? (i := 144) rfl))) (by decide) (own_finB (W := 0) hZ hw hfin (by decide) (by decide)) (g := (mkF m 65 #[.val (.ref b), .val (.ref o), .val (.double xd), .second, .val (.long d), .second] [(.double xd)])) rfl (by rw [hml]; rfl) (argsL := [(.double xd)]) (rest := []) (lenOf pd_12 rfl) rfl (by show 2 * 0 + _ ≤ _; exact Nat.le_of_eq rfl) (hb hby d22_65) rfl e3 (by decide) (by decide) ?_
  rintro v4 T4 L4 X4 ⟨rfl, rfl, hh4⟩
  have Nq4 := Fr.nil n0
  have N4 := Fr.app N1 Nq4
  show own_Go p e below _ T4 (mkF m 68 #[.val (.ref b), .val (.ref o), .val (.double xd), .second, .val (.long d), .second] [(.int (1 : Int32))])
  refine own_st (fun t_ k_ => XS.ifYes X4.here hx rfl (pc0 := 68) (pc' := 89) rfl (hb hby d22_68) rfl (by decide) (by decide) (by decide) k_) ?_
  show own_Go p e below _ T4 (mkF m 89 #[.val (.ref b), .val (.ref o), .val (.double xd), .second, .val (.long d), .second] [])
  refine own_st (fun t_ k_ => XS.aloadN X4.here hx rfl (hb hby d22_89) rfl rfl k_) ?_
  show own_Go p e below _ T4 (mkF m 90 #[.val (.ref b), .val (.ref o), .val (.double xd), .second, .val (.long d), .second] [(.ref b)])
  obtain ⟨T5, X5, e5, st5⟩ := getF X4 hx hZ hown (host := "") (Or.inl (hw _ (List.mem_of_getElem? (i := 89) rfl))) Via.refl hh4 F3 (g := (mkF m 90 #[.val (.ref b), .val (.ref o), .val (.double xd), .second, .val (.long d), .second] [(.ref b)])) rfl rfl (hb hby d22_90)
  refine own_st st5 ?_
  show own_Go p e below _ T5 (mkF m 93 #[.val (.ref b), .val (.ref o), .val (.double xd), .second, .val (.long d), .second] [(.int (0 : Int32))])
  refine own_st (fun t_ k_ => XS.aloadN X5.here hx rfl (hb hby d22_93) rfl rfl k_) ?_
  show own_Go p e below _ T5 (mkF m 94 #[.val (.ref b), .val (.ref o), .val (.double xd), .second, .val (.long d), .second] [(.ref b), (.int (0 : Int32))])
  obtain ⟨T6, X6, e6, st6⟩ := getF X5 hx hZ hown (host := "") (Or.inl (hw _ (List.mem_of_getElem? (i := 76) rfl))) Via.refl e5 F1 (g := (mkF m 94 #[.val (.ref b), .val (.ref o), .val (.double xd), .second, .val (.long d), .second] [(.ref b), (.int (0 : Int32))])) rfl rfl (hb hby d22_94)
  refine own_st st6 ?_
  show own_Go p e below _ T6 (mkF m 97 #[.val (.ref b), .val (.ref o), .val (.double xd), .second, .val (.long d), .second] [(.ref t1), (.int (0 : Int32))])
  obtain ⟨cl7, Ar7, -, S7, N7', -, -⟩ := id Pj1
  refine own_st (fun t_ k_ => X6.arraylength hx (by rw [e6]; exact Ar7.1) (State.isArrayOf_alike hZ.alike Ar7.2.1) (g := (mkF m 97 #[.val (.ref b), .val (.ref o), .val (.double xd), .second, .val (.long d), .second] [(.ref t1), (.int (0 : Int32))])) rfl rfl (hb hby d22_97) t_ k_) ?_
  rw [len_of S7 N7']
  show own_Go p e below _ T6 (mkF m 98 #[.val (.ref b), .val (.ref o), .val (.double xd), .second, .val (.long d), .second] [(.int (256 : Int32)), (.int (0 : Int32))])
  refine own_st (fun t_ k_ => XS.icmpYes X6.here hx rfl (pc0 := 98) (pc' := 135) rfl (hb hby d22_98) rfl (by decide) (by decide) (by decide) k_) ?_
  show own_Go p e below _ T6 (mkF m 135 #[.val (.ref b), .val (.ref o), .val (.double xd), .second, .val (.long d), .second] [])
  refine own_st (fun t_ k_ => XS.aloadN X6.here hx rfl (hb hby d22_135) rfl rfl k_) ?_
  show own_Go p e below _ T6 (mkF m 136 #[.val (.ref b), .val (.ref o), .val (.double xd), .second, .val (.long d), .second] [(.ref b)])
  obtain ⟨T8, X8, e8, st8⟩ := getF X6 hx hZ hown (host := "") (Or.inl (hw _ (List.mem_of_getElem? (i := 76) rfl))) Via.refl e6 F1 (g := (mkF m 136 #[.val (.ref b), .val (.ref o), .val (.double xd), .second, .val (.long d), .second] [(.ref b)])) rfl rfl (hb hby d22_136)
  refine own_st st8 ?_
  show own_Go p e below _ T8 (mkF m 139 #[.val (.ref b), .val (.ref o), .val (.double xd), .second, .val (.long d), .second] [(.ref t1)])
  refine own_st (fun t_ k_ => XS.aloadN X8.here hx rfl (hb hby d22_139) rfl rfl k_) ?_
  show own_Go p e below _ T8 (mkF m 140 #[.val (.ref b), .val (.ref o), .val (.double xd), .second, .val (.long d), .second] [(.ref b), (.ref t1)])
  obtain ⟨T9, X9, e9, st9⟩ := getF X8 hx hZ hown (host := "") (Or.inl (hw _ (List.mem_of_getElem? (i := 89) rfl))) Via.refl e8 F3 (g := (mkF m 140 #[.val (.ref b), .val (.ref o), .val (.double xd), .second, .val (.long d), .second] [(.ref b), (.ref t1)])) rfl rfl (hb hby d22_140)
  refine own_st st9 ?_
  show own_Go p e below _ T9 (mkF m 143 #[.val (.ref b), .val (.ref o), .val (.double xd), .second, .val (.long d), .second] [(.int (0 : Int32)), (.ref t1)])
  refine own_st (fun t_ k_ => XS.lload X9.here hx rfl (hb hby d22_143) rfl k_) ?_
  show own_Go p e below _ T9 (mkF m 145 #[.val (.ref b), .val (.ref o), .val (.double xd), .second, .val (.long d), .second] [(.long d), (.int (0 : Int32)), (.ref t1)])
  obtain ⟨cl10, Ar10, q10, S10, N10', H10, G10⟩ := id Pj1
  have hin10 : ¬ ((0 : Int32) < 0 ∨ cl10.slots.size ≤ ((0 : Int32)).toNatClampNeg) := inb_of S10 ⟨by decide, by decide⟩
  obtain ⟨T10, h10, X10, e10, W10, st10⟩ := stJ X9 hx hZ e9 Ar10 (j := (0 : Int32)) hin10 (g := (mkF m 145 #[.val (.ref b), .val (.ref o), .val (.double xd), .second, .val (.long d), .second] [(.long d), (.int (0 : Int32)), (.ref t1)])) rfl rfl (hb hby d22_145)
  have V10 : Arv Z h10 t1 k1 .long (256 : Int32) [(.long d), (.long j1), (.long j2)] (.long (0 : Int64)) := Arv.set Ar10 q10 S10 N10' H10 G10 rfl W10 0 rfl (Nat.le_of_ble_eq_true rfl)
  refine own_st st10 ?_
  have N10 := Fr.snoc X10 N4 g_t1
  have K10 : Keep h0 h10 [b, t1, t2] := (Keep.refl h0 [b, t1, t2]).wr W10 (Or.inl (List.mem_of_getElem? (i := 1) rfl))
  show own_Go p e below _ T10 (mkF m 146 #[.val (.ref b), .val (.ref o), .val (.double xd), .second, .val (.long d), .second] [])
  refine own_st (fun t_ k_ => XS.aloadN X10.here hx rfl (hb hby d22_146) rfl rfl k_) ?_
  show own_Go p e below _ T10 (mkF m 147 #[.val (.ref b), .val (.ref o), .val (.double xd), .second, .val (.long d), .second] [(.ref b)])
  have ne11 : b ≠ t1 := (Exa.neArv Eb Pj1 (hw _ (List.mem_of_getElem? (i := 69) rfl)))
  have f12 := (Fld.other W10 F2 (Or.inl ne11))
  obtain ⟨T13, X13, e13, st13⟩ := getF X10 hx hZ hown (host := "") (Or.inl (hw _ (List.mem_of_getElem? (i := 79) rfl))) Via.refl e10 f12 (g := (mkF m 147 #[.val (.ref b), .val (.ref o), .val (.double xd), .second, .val (.long d), .second] [(.ref b)])) rfl rfl (hb hby d22_147)
  refine own_st st13 ?_
  show own_Go p e below _ T13 (mkF m 150 #[.val (.ref b), .val (.ref o), .val (.double xd), .second, .val (.long d), .second] [(.ref t2)])
  refine own_st (fun t_ k_ => XS.aloadN X13.here hx rfl (hb hby d22_150) rfl rfl k_) ?_
  show own_Go p e below _ T13 (mkF m 151 #[.val (.ref b), .val (.ref o), .val (.double xd), .second, .val (.long d), .second] [(.ref b), (.ref t2)])
  have f14 := (Fld.other W10 F3 (Or.inl ne11))
  obtain ⟨T15, X15, e15, st15⟩ := getF X13 hx hZ hown (host := "") (Or.inl (hw _ (List.mem_of_getElem? (i := 89) rfl))) Via.refl e13 f14 (g := (mkF m 151 #[.val (.ref b), .val (.ref o), .val (.double xd), .second, .val (.long d), .second] [(.ref b), (.ref t2)])) rfl rfl (hb hby d22_151)
  refine own_st st15 ?_
  show own_Go p e below _ T15 (mkF m 154 #[.val (.ref b), .val (.ref o), .val (.double xd), .second, .val (.long d), .second] [(.int (0 : Int32)), (.ref t2)])
  refine own_st (fun t_ k_ => XS.dloadN X15.here hx rfl (hb hby d22_154) rfl k_) ?_
  show own_Go p e below _ T15 (mkF m 155 #[.val (.ref b), .val (.ref o), .val (.double xd), .second, .val (.long d), .second] [(.double xd), (.int (0 : Int32)), (.ref t2)])
  have ne17 : t2 ≠ t1 := (own_arvNe Pj2 Pj1 (by decide))
  have f18 := (Pj2.other W10 ne17)
  obtain ⟨cl16, Ar16, q16, S16, N16', H16, G16⟩ := id f18
  have hin16 : ¬ ((0 : Int32) < 0 ∨ cl16.slots.size ≤ ((0 : Int32)).toNatClampNeg) := inb_of S16 ⟨by decide, by decide⟩
  obtain ⟨T16, h16, X16, e16, W16, st16⟩ := stD X15 hx hZ e15 Ar16 (j := (0 : Int32)) hin16 (g := (mkF m 155 #[.val (.ref b), .val (.ref o), .val (.double xd), .second, .val (.long d), .second] [(.double xd), (.int (0 : Int32)), (.ref t2)])) rfl rfl (hb hby d22_155)
  have V16 : Arv Z h16 t2 k2 .double (256 : Int32) [(.double xd), (.double x1_), (.double x2_)] (.double (0 : UInt64)) := Arv.set Ar16 q16 S16 N16' H16 G16 rfl W16 0 rfl (Nat.le_of_ble_eq_true rfl)
  refine own_st st16 ?_
  have N16 := Fr.snoc X16 N10 g_t2
  have K16 : Keep h0 h16 [b, t1, t2] := K10.wr W16 (Or.inl (List.mem_of_getElem? (i := 2) rfl))
  show own_Go p e below _ T16 (mkF m 156 #[.val (.ref b), .val (.ref o), .val (.double xd), .second, .val (.long d), .second] [])
  refine own_st (fun t_ k_ => XS.aloadN X16.here hx rfl (hb hby d22_156) rfl rfl k_) ?_
  show own_Go p e below _ T16 (mkF m 157 #[.val (.ref b), .val (.ref o), .val (.double xd), .second, .val (.long d), .second] [(.ref b)])
  refine own_st (fun t_ k_ => XS.dup X16.here hx rfl (hb hby d22_157) rfl rfl k_) ?_
  show own_Go p e below _ T16 (mkF m 158 #[.val (.ref b), .val (.ref o), .val (.double xd), .second, .val (.long d), .second] [(.ref b), (.ref b)])
  have ne19 : b ≠ t2 := (Exa.neArv Eb Pj2 (hw _ (List.mem_of_getElem? (i := 69) rfl)))
  have f20 := (Fld.other W16 f14 (Or.inl ne19))
  obtain ⟨T21, X21, e21, st21⟩ := getF X16 hx hZ hown (host := "") (Or.inl (hw _ (List.mem_of_getElem? (i := 89) rfl))) Via.refl e16 f20 (g := (mkF m 158 #[.val (.ref b), .val (.ref o), .val (.double xd), .second, .val (.long d), .second] [(.ref b), (.ref b)])) rfl rfl (hb hby d22_158)
  refine own_st st21 ?_
  show own_Go p e below _ T21 (mkF m 161 #[.val (.ref b), .val (.ref o), .val (.double xd), .second, .val (.long d), .second] [(.int (0 : Int32)), (.ref b)])
  refine own_st (fun t_ k_ => XS.iconst X21.here hx rfl (hb hby d22_161) k_) ?_
  show own_Go p e below _ T21 (mkF m 162 #[.val (.ref b), .val (.ref o), .val (.double xd), .second, .val (.long d), .second] [(.int (1 : Int32)), (.int (0 : Int32)), (.ref b)])
  refine own_st (fun t_ k_ => XS.iadd X21.here hx rfl (hb hby d22_162) rfl k_) ?_
  show own_Go p e below _ T21 (mkF m 163 #[.val (.ref b), .val (.ref o), .val (.double xd), .second, .val (.long d), .second] [(.int (1 : Int32)), (.ref b)])
  have f23 := (Exa.wr W10 Eb)
  have f24 := (Exa.wr W16 f23)
  obtain ⟨T22, h22, X22, e22, W22, st22⟩ := putF X21 hx hZ hown (host := "") (Or.inl (hw _ (List.mem_of_getElem? (i := 89) rfl))) Via.refl e21 f20 f24 (Or.inl (hw _ (List.mem_of_getElem? (i := 90) rfl))) (hw _ (List.mem_of_getElem? (i := 69) rfl)) (ty := .int) (by decide) rfl rfl (g := (mkF m 163 #[.val (.ref b), .val (.ref o), .val (.double xd), .second, .val (.long d), .second] [(.int (1 : Int32)), (.ref b)])) rfl rfl (hb hby d22_163)
  refine own_st st22 ?_
  have N22 := Fr.snoc X22 N16 g_b
  have K22 : Keep h0 h22 [b, t1, t2] := K16.wr W22 (Or.inl (List.mem_of_getElem? (i := 0) rfl))
  have Fw22 := Fld.same W22 f20
  show own_Go p e below _ T22 (mkF m 166 #[.val (.ref b), .val (.ref o), .val (.double xd), .second, .val (.long d), .second] [])
  have f25 := (Exa.wr W22 f24)
  have f26 := (Fld.other W10 F1 (Or.inl ne11))
  have f27 := (Fld.other W16 f26 (Or.inl ne19))
  have f28 := (Fld.other W22 f27 (Or.inr (slot_ne (Or.inl (hw _ (List.mem_of_getElem? (i := 77) rfl))) (Or.inl (hw _ (List.mem_of_getElem? (i := 90) rfl))) (by decide) (t := (.array .long)) (t' := .int) (by decide) (by decide))))
  have f29 := (Fld.other W16 f12 (Or.inl ne19))
  have f30 := (Fld.other W22 f29 (Or.inr (slot_ne (Or.inl (hw _ (List.mem_of_getElem? (i := 80) rfl))) (Or.inl (hw _ (List.mem_of_getElem? (i := 90) rfl))) (by decide) (t := (.array .double)) (t' := .int) (by decide) (by decide))))
  have f31 := (V10.other W16 (Ne.symm ne17))
  have f32 := (f31.other W22 (Ne.symm ne11))
  have f33 := (V16.other W22 (Ne.symm ne19))
  refine own_ret0 X22 hx hlk Bd.returns (hb hby d22_166) ?_ (by decide) (by decide)
  show QAD0 Z b t1 t2 k1 k2 d xd j0 j1 j2 x0_ x1_ x2_ h0 n0 _ T22.heap _
  rw [e22]
  exact ⟨rfl, N22, K22, f25, f28, f30, Fw22, f32, f33⟩
def QAD1 (Z : State) (b t1 t2 : Addr) (k1 k2 : ClassId) (d : Int64) (xd : UInt64) (j0 j1 j2 : Int64) (x0_ x1_ x2_ : UInt64) (h0 : Heap) (n0 : Nat) (v : Option Value) (h : Heap) (L : List Loc) : Prop := v = none ∧ Fr n0 L ∧ Keep h0 h [b, t1, t2] ∧ Exa Z h b "com/example/hebelwerk/hebelwerk/engine/DatedValues$Builder" ∧ Fld Z h b "com/example/hebelwerk/hebelwerk/engine/DatedValues$Builder" "days" "[J" (.ref t1) ∧ Fld Z h b "com/example/hebelwerk/hebelwerk/engine/DatedValues$Builder" "values" "[D" (.ref t2) ∧ Fld Z h b "com/example/hebelwerk/hebelwerk/engine/DatedValues$Builder" "size" "I" (.int (2 : Int32)) ∧ Arv Z h t1 k1 .long (256 : Int32) [(.long j0), (.long d), (.long j2)] (.long (0 : Int64)) ∧ Arv Z h t2 k2 .double (256 : Int32) [(.double x0_), (.double xd), (.double x2_)] (.double (0 : UInt64))
theorem d22_13 : decode prog_20_method_2_code 13 = .ok (.lload 4, 2) := by decide +kernel
theorem d22_15 : decode prog_20_method_2_code 15 = .ok (.aload_n 0, 1) := by decide +kernel
theorem d22_16 : decode prog_20_method_2_code 16 = .ok (.getfield 7, 3) := by decide +kernel
theorem d22_19 : decode prog_20_method_2_code 19 = .ok (.aload_n 0, 1) := by decide +kernel
theorem d22_20 : decode prog_20_method_2_code 20 = .ok (.getfield 23, 3) := by decide +kernel
theorem d22_23 : decode prog_20_method_2_code 23 = .ok (.iconst 1, 1) := by decide +kernel
theorem d22_24 : decode prog_20_method_2_code 24 = .ok (.isub, 1) := by decide +kernel
theorem d22_25 : decode prog_20_method_2_code 25 = .ok (.laload, 1) := by decide +kernel
theorem d22_26 : decode prog_20_method_2_code 26 = .ok (.lcmp, 1) := by decide +kernel
theorem d22_27 : decode prog_20_method_2_code 27 = .ok (.ifCond .gt 37, 3) := by decide +kernel
theorem ef_rmAD1 (m : MethodId) (x0 : Addr) (x1 : Addr) (x2 : UInt64) : entryFrame m #[(.ref x0), (.ref x1), (.double x2)] 6 = mkF m 0 #[.val (.ref x0), .val (.ref x1), .val (.double x2), .second, .unset, .unset] [] := by first | (simp [entryFrame, mkF, argsToLocals, Value.category]; done) | rfl
set_option maxRecDepth 65536 in
set_option maxHeartbeats 40000000 in
theorem rmAD1 (l : Launch) (Z : State) (a0 : Array Value) (hw : ∀ d ∈ tables_1, d.before a0 Z = true) (ws : List Jvm.Cond) (b t1 t2 : Addr) (k1 k2 : ClassId) (o : Addr) (y m_ k : Int32) (d : Int64) (xd : UInt64) (j0 j1 j2 : Int64) (x0_ x1_ x2_ : UInt64) (cf rg iso : Addr) (h0 : Heap) (n0 : Nat) (Z0 : n0 ≤ h0.size) (O0 : Old Z n0 h0) (SEp : Sta Z Z.heap "java/time/temporal/ChronoField" "EPOCH_DAY" "Ljava/time/temporal/ChronoField;" (.ref cf)) (Ecf : Exa Z Z.heap cf "java/time/temporal/ChronoField") (Frg : Fld Z Z.heap cf "java/time/temporal/ChronoField" "range" "Ljava/time/temporal/ValueRange;" (.ref rg)) (Erg : Exa Z Z.heap rg "java/time/temporal/ValueRange") (Fmn : Fld Z Z.heap rg "java/time/temporal/ValueRange" "minSmallest" "J" (.long (-365243219162 : Int64))) (Fmx : Fld Z Z.heap rg "java/time/temporal/ValueRange" "maxLargest" "J" (.long (365241780471 : Int64))) (SIn : Sta Z Z.heap "java/time/chrono/IsoChronology" "INSTANCE" "Ljava/time/chrono/IsoChronology;" (.ref iso)) (Eis : Exa Z Z.heap iso "java/time/chrono/IsoChronology") (g_b : n0 ≤ b) (g_t1 : n0 ≤ t1) (g_t2 : n0 ≤ t2) (Eb : Exa Z h0 b "com/example/hebelwerk/hebelwerk/engine/DatedValues$Builder") (F1 : Fld Z h0 b "com/example/hebelwerk/hebelwerk/engine/DatedValues$Builder" "days" "[J" (.ref t1)) (F2 : Fld Z h0 b "com/example/hebelwerk/hebelwerk/engine/DatedValues$Builder" "values" "[D" (.ref t2)) (F3 : Fld Z h0 b "com/example/hebelwerk/hebelwerk/engine/DatedValues$Builder" "size" "I" (.int (1 : Int32))) (Pj1 : Arv Z h0 t1 k1 .long (256 : Int32) [(.long j0), (.long j1), (.long j2)] (.long (0 : Int64))) (Pj2 : Arv Z h0 t2 k2 .double (256 : Int32) [(.double x0_), (.double x1_), (.double x2_)] (.double (0 : UInt64))) (Eo : Exa Z h0 o "java/time/LocalDate") (Fy : Fld Z h0 o "java/time/LocalDate" "year" "I" (.int y)) (Fm : Fld Z h0 o "java/time/LocalDate" "month" "S" (.int m_)) (Fd : Fld Z h0 o "java/time/LocalDate" "day" "S" (.int k)) (hD : own_D d.toInt y.toInt m_.toInt k.toInt) (hd : -100000200000 ≤ d.toInt ∧ d.toInt ≤ 100000200000) (hfin : Jvm.Free.Fl.Fin64 xd) (hprev : j0.toInt < d.toInt) :
    MetFree l (⟨"com/example/hebelwerk/hebelwerk/engine/DatedValues$Builder", "add", "(Ljava/time/LocalDate;D)V"⟩ : MethodName) (head1 (Jvm.Cond.code (⟨"com/example/hebelwerk/hebelwerk/engine/DatedValues$Builder", "add", "(Ljava/time/LocalDate;D)V"⟩ : MethodName) prog_20_method_2_code 6 none :: ws) ({ frames := 3, cells := 0, slots := 0, locals := 44 } : Room)) (fun a_ U_ => a_ = #[(.ref b), (.ref o), (.double xd)] ∧ Z.Warmed39 U_.vm ∧ U_.heap = h0) (fun _ _ _ _ _ => True) (fun _ U_ o_ U'_ => ∃ v_ L_, o_ = .returned v_ ∧ QAD1 Z b t1 t2 k1 k2 d xd j0 j1 j2 x0_ x1_ x2_ h0 n0 v_ U'_.heap L_ ∧ FrameEnd U_ o_ U'_ L_ ({ frames := 3, cells := 0, slots := 0, locals := 44 } : Room).cells ({ frames := 3, cells := 0, slots := 0, locals := 44 } : Room).slots) := by
  refine MetFree.of_bodySF (plainFor_of_name pn_5) hisR ?_
  intro p e s m args below meth c s₁ Bd hml0 hP hK
  obtain ⟨rfl, hZ, hh⟩ := hP
  have hx := Bd.exec
  have hby := Bd.bytes
  have hml : c.maxLocals = 6 := hml0
  have hown : s.vm.findClass "com/example/hebelwerk/hebelwerk/engine/DatedValues$Builder" = some m.cls := findClass_of_methodNamed Bd.named
  have hnm := (name_of_methodNamed Bd.named Bd.method).1
  have hlk := BodyLoose.notSynchronized Bd
  have X0 : Stand p l e ({ frames := 3, cells := 0, slots := 0, locals := 44 } : Room) s m #[(.ref b), (.ref o), (.double xd)] below meth c s₁ [] 0 0 := Stand.of_body Bd
  have e0 : s₁.heap = h0 := by rw [← hh, Bd.state]; rfl
  have N0 := Fr.nil n0
  refine own_entry (P := own_End s (QAD1 Z b t1 t2 k1 k2 d xd j0 j1 j2 x0_ x1_ x2_ h0 n0) ({ frames := 3, cells := 0, slots := 0, locals := 44 } : Room).cells ({ frames := 3, cells := 0, slots := 0, locals := 44 } : Room).slots) (ef_rmAD1 m b o xd) ?_
  show own_Go p e below _ s₁ (mkF m 0 #[.val (.ref b), .val (.ref o), .val (.double xd), .second, .unset, .unset] [])
  have c1_ := Exa.ext O0.2 Ecf
  have c2_ := Fld.ext O0.2 Frg
  have c3_ := Exa.ext O0.2 Erg
  have c4_ := Fld.ext O0.2 Fmn
  have c5_ := Fld.ext O0.2 Fmx
  have c6_ := Exa.ext O0.2 Eis
  have hgt : (0 : Int32) < (lcmpW d j0) := own_lcg.mpr hprev
  refine own_st (fun t_ k_ => XS.aloadN X0.here hx rfl (hb hby d22_0) rfl rfl k_) ?_
  show own_Go p e below _ s₁ (mkF m 1 #[.val (.ref b), .val (.ref o), .val (.double xd), .second, .unset, .unset] [(.ref o)])
  obtain ⟨cq2, kq2, q2a, q2b, q2c⟩ := isOf hZ e0 Eo
  refine own_callV X0 hx (y := (⟨"java/time/LocalDate", "toEpochDay", "()J"⟩ : MethodName)) (z := (⟨"java/time/LocalDate", "toEpochDay", "()J"⟩ : MethodName)) hown (mvT hZ (hw _ (List.mem_of_getElem? (i := 129) rfl))) (mvT hZ (hw _ (List.mem_of_getElem? (i := 130) rfl))) (notFace_of_selects (args := #[]) (mvT hZ (hw _ (List.mem_of_getElem? (i := 132) rfl)))) (mvT hZ (hw _ (List.mem_of_getElem? (i := 132) rfl))) (mvT hZ (hw _ (List.mem_of_getElem? (i := 131) rfl))) (by decide) (backOf (W := 0) (rmTE l Z a0 hw [] o y m_ k d cf rg iso h0 n0 (Nat.le_trans Z0 (Keep.refl h0 [b, t1, t2]).1) O0 SEp Ecf Frg Erg Fmn Fmx SIn Eis Eo Fy Fm Fd hD hd) hZ (hw _ (List.mem_of_getElem? (i := 133) rfl)) (hw _ (List.mem_of_getElem? (i := 4) rfl)) (by decide) (by decide)) q2a q2c (g := (mkF m 1 #[.val (.ref b), .val (.ref o), .val (.double xd), .second, .unset, .unset] [(.ref o)])) rfl (by rw [hml]; rfl) (argsL := []) (rest := []) (lenOf pd_0 rfl) rfl (by show 2 * 0 + _ ≤ _; exact Nat.le_of_eq rfl) (hb hby d22_1) rfl e0 (by decide) (by decide) ?_
  rintro v1 T1 L1 X1 ⟨rfl, Nq1, hh1⟩
  have N1 := Fr.app N0 Nq1
  show own_Go p e below _ T1 (mkF m 4 #[.val (.ref b), .val (.ref o), .val (.double xd), .second, .unset, .unset] [(.long d)])
  refine own_st (fun t_ k_ => XS.lstore X1.here hx rfl (hb hby d22_4) rfl (l' := #[.val (.ref b), .val (.ref o), .val (.double xd), .second, .val (.long d), .second]) rfl k_) ?_
  show own_Go p e below _ T1 (mkF m 6 #[.val (.ref b), .val (.ref o), .val (.double xd), .second, .val (.long d), .second] [])
  refine own_st (fun t_ k_ => XS.aloadN X1.here hx rfl (hb hby d22_6) rfl rfl k_) ?_
  show own_Go p e below _ T1 (mkF m 7 #[.val (.ref b), .val (.ref o), .val (.double xd), .second, .val (.long d), .second] [(.ref b)])
  obtain ⟨T3, X3, e3, st3⟩ := getF X1 hx hZ hown (host := "") (Or.inl (hw _ (List.mem_of_getElem? (i := 89) rfl))) Via.refl hh1 F3 (g := (mkF m 7 #[.val (.ref b), .val (.ref o), .val (.double xd), .second, .val (.long d), .second] [(.ref b)])) rfl rfl (hb hby d22_7)
  refine own_st st3 ?_
  show own_Go p e below _ T3 (mkF m 10 #[.val (.ref b), .val (.ref o), .val (.double xd), .second, .val (.long d), .second] [(.int (1 : Int32))])
  refine own_st (fun t_ k_ => XS.ifNo X3.here hx rfl (hb hby d22_10) rfl (by decide) k_) ?_
  show own_Go p e below _ T3 (mkF m 13 #[.val (.ref b), .val (.ref o), .val (.double xd), .second, .val (.long d), .second] [])
  refine own_st (fun t_ k_ => XS.lload X3.here hx rfl (hb hby d22_13) rfl k_) ?_
  show own_Go p e below _ T3 (mkF m 15 #[.val (.ref b), .val (.ref o), .val (.double xd), .second, .val (.long d), .second] [(.long d)])
  refine own_st (fun t_ k_ => XS.aloadN X3.here hx rfl (hb hby d22_15) rfl rfl k_) ?_
  show own_Go p e below _ T3 (mkF m 16 #[.val (.ref b), .val (.ref o), .val (.double xd), .second, .val (.long d), .second] [(.ref b), (.long d)])
  obtain ⟨T4, X4, e4, st4⟩ := getF X3 hx hZ hown (host := "") (Or.inl (hw _ (List.mem_of_getElem? (i := 76) rfl))) Via.refl e3 F1 (g := (mkF m 16 #[.val (.ref b), .val (.ref o), .val (.double xd), .second, .val (.long d), .second] [(.ref b), (.long d)])) rfl rfl (hb hby d22_16)
  refine own_st st4 ?_
  show own_Go p e below _ T4 (mkF m 19 #[.val (.ref b), .val (.ref o), .val (.double xd), .second, .val (.long d), .second] [(.ref t1), (.long d)])
  refine own_st (fun t_ k_ => XS.aloadN X4.here hx rfl (hb hby d22_19) rfl rfl k_) ?_
  show own_Go p e below _ T4 (mkF m 20 #[.val (.ref b), .val (.ref o), .val (.double xd), .second, .val (.long d), .second] [(.ref b), (.ref t1), (.long d)])
  obtain ⟨T5, X5, e5, st5⟩ := getF X4 hx hZ hown (host := "") (Or.inl (hw _ (List.mem_of_getElem? (i := 89) rfl))) Via.refl e4 F3 (g := (mkF m 20 #[.val (.ref b), .val (.ref o), .val (.double xd), .second, .val (.long d), .second] [(.ref b), (.ref t1), (.long d)])) rfl rfl (hb hby d22_20)
  refine own_st st5 ?_
  show own_Go p e below _ T5 (mkF m 23 #[.val (.ref b), .val (.ref o), .val (.double xd), .second, .val (.long d), .second] [(.int (1 : Int32)), (.ref t1), (.long d)])
  refine own_st (fun t_ k_ => XS.iconst X5.here hx rfl (hb hby d22_23) k_) ?_
  show own_Go p e below _ T5 (mkF m 24 #[.val (.ref b), .val (.ref o), .val (.double xd), .second, .val (.long d), .second] [(.int (1 : Int32)), (.int (1 : Int32)), (.ref t1), (.long d)])
  refine own_st (fun t_ k_ => XS.isub X5.here hx rfl (hb hby d22_24) rfl k_) ?_
  show own_Go p e below _ T5 (mkF m 25 #[.val (.ref b), .val (.ref o), .val (.double xd), .second, .val (.long d), .second] [(.int (0 : Int32)), (.ref t1), (.long d)])
  obtain ⟨cl6, Ar6, q6, S6, N6', H6, G6⟩ := id Pj1
  have hin6 : ¬ ((0 : Int32) < 0 ∨ cl6.slots.size ≤ ((0 : Int32)).toNatClampNeg) := inb_of S6 ⟨by decide, by decide⟩
  refine own_st (fun t_ k_ => X5.laload hx (j := (0 : Int32)) (v := (.long j0)) (by rw [e5]; exact Ar6.1) (State.isArrayOf_alike hZ.alike Ar6.2.1) Ar6.2.2 hin6 (Has.at H6 hin6 rfl) (g := (mkF m 25 #[.val (.ref b), .val (.ref o), .val (.double xd), .second, .val (.long d), .second] [(.int (0 : Int32)), (.ref t1), (.long d)])) rfl rfl (hb hby d22_25) t_ k_) ?_
  show own_Go p e below _ T5 (mkF m 26 #[.val (.ref b), .val (.ref o), .val (.double xd), .second, .val (.long d), .second] [(.long j0), (.long d)])
  refine own_st (fun t_ k_ => XS.lcmp X5.here hx rfl (hb hby d22_26) rfl k_) ?_
  show own_Go p e below _ T5 (mkF m 27 #[.val (.ref b), .val (.ref o), .val (.double xd), .second, .val (.long d), .second] [(.int (lcmpW d j0))])
  refine own_st (fun t_ k_ => XS.ifYes X5.here hx rfl (pc0 := 27) (pc' := 64) rfl (hb hby d22_27) rfl ((if0 _ _).trans (tlt hgt).2.2.1) (by decide) (by decide) k_) ?_
  show own_Go p e below _ T5 (mkF m 64 #[.val (.ref b), .val (.ref o), .val (.double xd), .second, .val (.long d), .second] [])
  refine own_st (fun t_ k_ => XS.dloadN X5.here hx rfl (hb hby d22_64) rfl k_) ?_
  show own_Go p e below _ T5 (mkF m 65 #[.val (.ref b), .val (.ref o), .val (.double xd), .second, .val (.long d), .second] [(.double xd)])
  refine own_callS X5 hx (y := (⟨"java/lang/Double", "isFinite", "(D)Z"⟩ : MethodName)) hown (mvT hZ (hw _ (List.mem_of_getElem? (i := 141) rfl))) (mvT hZ (hw _ (List.mem_of_getElem? (i := 142) rfl))) (mvT hZ (hw _ (List.mem_of_getElem? (i := 143) rfl))) (mvT hZ (hw _ (List.mem_of_getElem? (i := 144) rfl))) (by decide) (own_finB (W := 0) hZ hw hfin (by decide) (by decide)) (g := (mkF m 65 #[.val (.ref b), .val (.ref o), .val (.double xd), .second, .val (.long d), .second] [(.double xd)])) rfl (by rw [hml]; rfl) (argsL := [(.double xd)]) (rest := []) (lenOf pd_12 rfl) rfl (by show 2 * 0 + _ ≤ _; exact Nat.le_of_eq rfl) (hb hby d22_65) rfl e5 (by decide) (by decide) ?_
  rintro v7 T7 L7 X7 ⟨rfl, rfl, hh7⟩
  have Nq7 := Fr.nil n0
  have N7 := Fr.app N1 Nq7
  show own_Go p e below _ T7 (mkF m 68 #[.val (.ref b), .val (.ref o), .val (.double xd), .second, .val (.long d), .second] [(.int (1 : Int32))])
  refine own_st (fun t_ k_ => XS.ifYes X7.here hx rfl (pc0 := 68) (pc' := 89) rfl (hb hby d22_68) rfl (by decide) (by decide) (by decide) k_) ?_
  show own_Go p e below _ T7 (mkF m 89 #[.val (.ref b), .val (.ref o), .val (.double xd), .second, .val (.long d), .second] [])
  refine own_st (fun t_ k_ => XS.aloadN X7.here hx rfl (hb hby d22_89) rfl rfl k_) ?_
  show own_Go p e below _ T7 (mkF m 90 #[.val (.ref b), .val (.ref o), .val (.double xd), .second, .val (.long d), .second] [(.ref b)])
  obtain ⟨T8, X8, e8, st8⟩ := getF X7 hx hZ hown (host := "") (Or.inl (hw _ (List.mem_of_getElem? (i := 89) rfl))) Via.refl hh7 F3 (g := (mkF m 90 #[.val (.ref b), .val (.ref o), .val (.double xd), .second, .val (.long d), .second] [(.ref b)])) rfl rfl (hb hby d22_90)
  refine own_st st8 ?_
  show own_Go p e below _ T8 (mkF m 93 #[.val (.ref b), .val (.ref o), .val (.double xd), .second, .val (.long d), .second] [(.int (1 : Int32))])
  refine own_st (fun t_ k_ => XS.aloadN X8.here hx rfl (hb hby d22_93) rfl rfl k_) ?_
  show own_Go p e below _ T8 (mkF m 94 #[.val (.ref b), .val (.ref o), .val (.double xd), .second, .val (.long d), .second] [(.ref b), (.int (1 : Int32))])
  obtain ⟨T9, X9, e9, st9⟩ := getF X8 hx hZ hown (host := "") (Or.inl (hw _ (List.mem_of_getElem? (i := 76) rfl))) Via.refl e8 F1 (g := (mkF m 94 #[.val (.ref b), .val (.ref o), .val (.double xd), .second, .val (.long d), .second] [(.ref b), (.int (1 : Int32))])) rfl rfl (hb hby d22_94)
  refine own_st st9 ?_
  show own_Go p e below _ T9 (mkF m 97 #[.val (.ref b), .val (.ref o), .val (.double xd), .second, .val (.long d), .second] [(.ref t1), (.int (1 : Int32))])
  obtain ⟨cl10, Ar10, -, S10, N10', -, -⟩ := id Pj1
  refine own_st (fun t_ k_ => X9.arraylength hx (by rw [e9]; exact Ar10.1) (State.isArrayOf_alike hZ.alike Ar10.2.1) (g := (mkF m 97 #[.val (.ref b), .val (.ref o), .val (.double xd), .second, .val (.long d), .second] [(.ref t1), (.int (1 : Int32))])) rfl rfl (hb hby d22_97) t_ k_) ?_
  rw [len_of S10 N10']
  show own_Go p e below _ T9 (mkF m 98 #[.val (.ref b), .val (.ref o), .val (.double xd), .second, .val (.long d), .second] [(.int (256 : Int32)), (.int (1 : Int32))])
  refine own_st (fun t_ k_ => XS.icmpYes X9.here hx rfl (pc0 := 98) (pc' := 135) rfl (hb hby d22_98) rfl (by decide) (by decide) (by decide) k_) ?_
  show own_Go p e below _ T9 (mkF m 135 #[.val (.ref b), .val (.ref o), .val (.double xd), .second, .val (.long d), .second] [])
  refine own_st (fun t_ k_ => XS.aloadN X9.here hx rfl (hb hby d22_135) rfl rfl k_) ?_
  show own_Go p e below _ T9 (mkF m 136 #[.val (.ref b), .val (.ref o), .val (.double xd), .second, .val (.long d), .second] [(.ref b)])
  obtain ⟨T11, X11, e11, st11⟩ := getF X9 hx hZ hown (host := "") (Or.inl (hw _ (List.mem_of_getElem? (i := 76) rfl))) Via.refl e9 F1 (g := (mkF m 136 #[.val (.ref b), .val (.ref o), .val (.double xd), .second, .val (.long d), .second] [(.ref b)])) rfl rfl (hb hby d22_136)
  refine own_st st11 ?_
  show own_Go p e below _ T11 (mkF m 139 #[.val (.ref b), .val (.ref o), .val (.double xd), .second, .val (.long d), .second] [(.ref t1)])
  refine own_st (fun t_ k_ => XS.aloadN X11.here hx rfl (hb hby d22_139) rfl rfl k_) ?_
  show own_Go p e below _ T11 (mkF m 140 #[.val (.ref b), .val (.ref o), .val (.double xd), .second, .val (.long d), .second] [(.ref b), (.ref t1)])
  obtain ⟨T12, X12, e12, st12⟩ := getF X11 hx hZ hown (host := "") (Or.inl (hw _ (List.mem_of_getElem? (i := 89) rfl))) Via.refl e11 F3 (g := (mkF m 140 #[.val (.ref b), .val (.ref o), .val (.double xd), .second, .val (.long d), .second] [(.ref b), (.ref t1)])) rfl rfl (hb hby d22_140)
  refine own_st st12 ?_
  show own_Go p e below _ T12 (mkF m 143 #[.val (.ref b), .val (.ref o), .val (.double xd), .second, .val (.long d), .second] [(.int (1 : Int32)), (.ref t1)])
  refine own_st (fun t_ k_ => XS.lload X12.here hx rfl (hb hby d22_143) rfl k_) ?_
  show own_Go p e below _ T12 (mkF m 145 #[.val (.ref b), .val (.ref o), .val (.double xd), .second, .val (.long d), .second] [(.long d), (.int (1 : Int32)), (.ref t1)])
  obtain ⟨cl13, Ar13, q13, S13, N13', H13, G13⟩ := id Pj1
  have hin13 : ¬ ((1 : Int32) < 0 ∨ cl13.slots.size ≤ ((1 : Int32)).toNatClampNeg) := inb_of S13 ⟨by decide, by decide⟩
  obtain ⟨T13, h13, X13, e13, W13, st13⟩ := stJ X12 hx hZ e12 Ar13 (j := (1 : Int32)) hin13 (g := (mkF m 145 #[.val (.ref b), .val (.ref o), .val (.double xd), .second, .val (.long d), .second] [(.long d), (.int (1 : Int32)), (.ref t1)])) rfl rfl (hb hby d22_145)
  have V13 : Arv Z h13 t1 k1 .long (256 : Int32) [(.long j0), (.long d), (.long j2)] (.long (0 : Int64)) := Arv.set Ar13 q13 S13 N13' H13 G13 rfl W13 1 rfl (Nat.le_of_ble_eq_true rfl)
  refine own_st st13 ?_
  have N13 := Fr.snoc X13 N7 g_t1
  have K13 : Keep h0 h13 [b, t1, t2] := (Keep.refl h0 [b, t1, t2]).wr W13 (Or.inl (List.mem_of_getElem? (i := 1) rfl))
  show own_Go p e below _ T13 (mkF m 146 #[.val (.ref b), .val (.ref o), .val (.double xd), .second, .val (.long d), .second] [])
  refine own_st (fun t_ k_ => XS.aloadN X13.here hx rfl (hb hby d22_146) rfl rfl k_) ?_
  show own_Go p e below _ T13 (mkF m 147 #[.val (.ref b), .val (.ref o), .val (.double xd), .second, .val (.long d), .second] [(.ref b)])
  have ne14 : b ≠ t1 := (Exa.neArv Eb Pj1 (hw _ (List.mem_of_getElem? (i := 69) rfl)))
  have f15 := (Fld.other W13 F2 (Or.inl ne14))
  obtain ⟨T16, X16, e16, st16⟩ := getF X13 hx hZ hown (host := "") (Or.inl (hw _ (List.mem_of_getElem? (i := 79) rfl))) Via.refl e13 f15 (g := (mkF m 147 #[.val (.ref b), .val (.ref o), .val (.double xd), .second, .val (.long d), .second] [(.ref b)])) rfl rfl (hb hby d22_147)
  refine own_st st16 ?_
  show own_Go p e below _ T16 (mkF m 150 #[.val (.ref b), .val (.ref o), .val (.double xd), .second, .val (.long d), .second] [(.ref t2)])
  refine own_st (fun t_ k_ => XS.aloadN X16.here hx rfl (hb hby d22_150) rfl rfl k_) ?_
  show own_Go p e below _ T16 (mkF m 151 #[.val (.ref b), .val (.ref o), .val (.double xd), .second, .val (.long d), .second] [(.ref b), (.ref t2)])
  have f17 := (Fld.other W13 F3 (Or.inl ne14))
  obtain ⟨T18, X18, e18, st18⟩ := getF X16 hx hZ hown (host := "") (Or.inl (hw _ (List.mem_of_getElem? (i := 89) rfl))) Via.refl e16 f17 (g := (mkF m 151 #[.val (.ref b), .val (.ref o), .val (.double xd), .second, .val (.long d), .second] [(.ref b), (.ref t2)])) rfl rfl (hb hby d22_151)
  refine own_st st18 ?_
  show own_Go p e below _ T18 (mkF m 154 #[.val (.ref b), .val (.ref o), .val (.double xd), .second, .val (.long d), .second] [(.int (1 : Int32)), (.ref t2)])
  refine own_st (fun t_ k_ => XS.dloadN X18.here hx rfl (hb hby d22_154) rfl k_) ?_
  show own_Go p e below _ T18 (mkF m 155 #[.val (.ref b), .val (.ref o), .val (.double xd), .second, .val (.long d), .second] [(.double xd), (.int (1 : Int32)), (.ref t2)])
  have ne20 : t2 ≠ t1 := (own_arvNe Pj2 Pj1 (by decide))
  have f21 := (Pj2.other W13 ne20)
  obtain ⟨cl19, Ar19, q19, S19, N19', H19, G19⟩ := id f21
  have hin19 : ¬ ((1 : Int32) < 0 ∨ cl19.slots.size ≤ ((1 : Int32)).toNatClampNeg) := inb_of S19 ⟨by decide, by decide⟩
  obtain ⟨T19, h19, X19, e19, W19, st19⟩ := stD X18 hx hZ e18 Ar19 (j := (1 : Int32)) hin19 (g := (mkF m 155 #[.val (.ref b), .val (.ref o), .val (.double xd), .second, .val (.long d), .second] [(.double xd), (.int (1 : Int32)), (.ref t2)])) rfl rfl (hb hby d22_155)
  have V19 : Arv Z h19 t2 k2 .double (256 : Int32) [(.double x0_), (.double xd), (.double x2_)] (.double (0 : UInt64)) := Arv.set Ar19 q19 S19 N19' H19 G19 rfl W19 1 rfl (Nat.le_of_ble_eq_true rfl)
  refine own_st st19 ?_
  have N19 := Fr.snoc X19 N13 g_t2
  have K19 : Keep h0 h19 [b, t1, t2] := K13.wr W19 (Or.inl (List.mem_of_getElem? (i := 2) rfl))
  show own_Go p e below _ T19 (mkF m 156 #[.val (.ref b), .val (.ref o), .val (.double xd), .second, .val (.long d), .second] [])
  refine own_st (fun t_ k_ => XS.aloadN X19.here hx rfl (hb hby d22_156) rfl rfl k_) ?_
  show own_Go p e below _ T19 (mkF m 157 #[.val (.ref b), .val (.ref o), .val (.double xd), .second, .val (.long d), .second] [(.ref b)])
  refine own_st (fun t_ k_ => XS.dup X19.here hx rfl (hb hby d22_157) rfl rfl k_) ?_
  show own_Go p e below _ T19 (mkF m 158 #[.val (.ref b), .val (.ref o), .val (.double xd), .second, .val (.long d), .second] [(.ref b), (.ref b)])
  have ne22 : b ≠ t2 := (Exa.neArv Eb Pj2 (hw _ (List.mem_of_getElem? (i := 69) rfl)))
  have f23 := (Fld.other W19 f17 (Or.inl ne22))
  obtain ⟨T24, X24, e24, st24⟩ := getF X19 hx hZ hown (host := "") (Or.inl (hw _ (List.mem_of_getElem? (i := 89) rfl))) Via.refl e19 f23 (g := (mkF m 158 #[.val (.ref b), .val (.ref o), .val (.double xd), .second, .val (.long d), .second] [(.ref b), (.ref b)])) rfl rfl (hb hby d22_158)
  refine own_st st24 ?_
  show own_Go p e below _ T24 (mkF m 161 #[.val (.ref b), .val (.ref o), .val (.double xd), .second, .val (.long d), .second] [(.int (1 : Int32)), (.ref b)])
  refine own_st (fun t_ k_ => XS.iconst X24.here hx rfl (hb hby d22_161) k_) ?_
  show own_Go p e below _ T24 (mkF m 162 #[.val (.ref b), .val (.ref o), .val (.double xd), .second, .val (.long d), .second] [(.int (1 : Int32)), (.int (1 : Int32)), (.ref b)])
  refine own_st (fun t_ k_ => XS.iadd X24.here hx rfl (hb hby d22_162) rfl k_) ?_
  show own_Go p e below _ T24 (mkF m 163 #[.val (.ref b), .val (.ref o), .val (.double xd), .second, .val (.long d), .second] [(.int (2 : Int32)), (.ref b)])
  have f26 := (Exa.wr W13 Eb)
  have f27 := (Exa.wr W19 f26)
  obtain ⟨T25, h25, X25, e25, W25, st25⟩ := putF X24 hx hZ hown (host := "") (Or.inl (hw _ (List.mem_of_getElem? (i := 89) rfl))) Via.refl e24 f23 f27 (Or.inl (hw _ (List.mem_of_getElem? (i := 90) rfl))) (hw _ (List.mem_of_getElem? (i := 69) rfl)) (ty := .int) (by decide) rfl rfl (g := (mkF m 163 #[.val (.ref b), .val (.ref o), .val (.double xd), .second, .val (.long d), .second] [(.int (2 : Int32)), (.ref b)])) rfl rfl (hb hby d22_163)
  refine own_st st25 ?_
  have N25 := Fr.snoc X25 N19 g_b
  have K25 : Keep h0 h25 [b, t1, t2] := K19.wr W25 (Or.inl (List.mem_of_getElem? (i := 0) rfl))
  have Fw25 := Fld.same W25 f23
  show own_Go p e below _ T25 (mkF m 166 #[.val (.ref b), .val (.ref o), .val (.double xd), .second, .val (.long d), .second] [])
  have f28 := (Exa.wr W25 f27)
  have f29 := (Fld.other W13 F1 (Or.inl ne14))
  have f30 := (Fld.other W19 f29 (Or.inl ne22))
  have f31 := (Fld.other W25 f30 (Or.inr (slot_ne (Or.inl (hw _ (List.mem_of_getElem? (i := 77) rfl))) (Or.inl (hw _ (List.mem_of_getElem? (i := 90) rfl))) (by decide) (t := (.array .long)) (t' := .int) (by decide) (by decide))))
  have f32 := (Fld.other W19 f15 (Or.inl ne22))
  have f33 := (Fld.other W25 f32 (Or.inr (slot_ne (Or.inl (hw _ (List.mem_of_getElem? (i := 80) rfl))) (Or.inl (hw _ (List.mem_of_getElem? (i := 90) rfl))) (by decide) (t := (.array .double)) (t' := .int) (by decide) (by decide))))
  have f34 := (V13.other W19 (Ne.symm ne20))
  have f35 := (f34.other W25 (Ne.symm ne14))
  have f36 := (V19.other W25 (Ne.symm ne22))
  refine own_ret0 X25 hx hlk Bd.returns (hb hby d22_166) ?_ (by decide) (by decide)
  show QAD1 Z b t1 t2 k1 k2 d xd j0 j1 j2 x0_ x1_ x2_ h0 n0 _ T25.heap _
  rw [e25]
  exact ⟨rfl, N25, K25, f28, f31, f33, Fw25, f35, f36⟩
def QAD2 (Z : State) (b t1 t2 : Addr) (k1 k2 : ClassId) (d : Int64) (xd : UInt64) (j0 j1 j2 : Int64) (x0_ x1_ x2_ : UInt64) (h0 : Heap) (n0 : Nat) (v : Option Value) (h : Heap) (L : List Loc) : Prop := v = none ∧ Fr n0 L ∧ Keep h0 h [b, t1, t2] ∧ Exa Z h b "com/example/hebelwerk/hebelwerk/engine/DatedValues$Builder" ∧ Fld Z h b "com/example/hebelwerk/hebelwerk/engine/DatedValues$Builder" "days" "[J" (.ref t1) ∧ Fld Z h b "com/example/hebelwerk/hebelwerk/engine/DatedValues$Builder" "values" "[D" (.ref t2) ∧ Fld Z h b "com/example/hebelwerk/hebelwerk/engine/DatedValues$Builder" "size" "I" (.int (3 : Int32)) ∧ Arv Z h t1 k1 .long (256 : Int32) [(.long j0), (.long j1), (.long d)] (.long (0 : Int64)) ∧ Arv Z h t2 k2 .double (256 : Int32) [(.double x0_), (.double x1_), (.double xd)] (.double (0 : UInt64))
theorem ef_rmAD2 (m : MethodId) (x0 : Addr) (x1 : Addr) (x2 : UInt64) : entryFrame m #[(.ref x0), (.ref x1), (.double x2)] 6 = mkF m 0 #[.val (.ref x0), .val (.ref x1), .val (.double x2), .second, .unset, .unset] [] := by first | (simp [entryFrame, mkF, argsToLocals, Value.category]; done) | rfl
set_option maxRecDepth 65536 in
set_option maxHeartbeats 40000000 in
theorem rmAD2 (l : Launch) (Z : State) (a0 : Array Value) (hw : ∀ d ∈ tables_1, d.before a0 Z = true) (ws : List Jvm.Cond) (b t1 t2 : Addr) (k1 k2 : ClassId) (o : Addr) (y m_ k : Int32) (d : Int64) (xd : UInt64) (j0 j1 j2 : Int64) (x0_ x1_ x2_ : UInt64) (cf rg iso : Addr) (h0 : Heap) (n0 : Nat) (Z0 : n0 ≤ h0.size) (O0 : Old Z n0 h0) (SEp : Sta Z Z.heap "java/time/temporal/ChronoField" "EPOCH_DAY" "Ljava/time/temporal/ChronoField;" (.ref cf)) (Ecf : Exa Z Z.heap cf "java/time/temporal/ChronoField") (Frg : Fld Z Z.heap cf "java/time/temporal/ChronoField" "range" "Ljava/time/temporal/ValueRange;" (.ref rg)) (Erg : Exa Z Z.heap rg "java/time/temporal/ValueRange") (Fmn : Fld Z Z.heap rg "java/time/temporal/ValueRange" "minSmallest" "J" (.long (-365243219162 : Int64))) (Fmx : Fld Z Z.heap rg "java/time/temporal/ValueRange" "maxLargest" "J" (.long (365241780471 : Int64))) (SIn : Sta Z Z.heap "java/time/chrono/IsoChronology" "INSTANCE" "Ljava/time/chrono/IsoChronology;" (.ref iso)) (Eis : Exa Z Z.heap iso "java/time/chrono/IsoChronology") (g_b : n0 ≤ b) (g_t1 : n0 ≤ t1) (g_t2 : n0 ≤ t2) (Eb : Exa Z h0 b "com/example/hebelwerk/hebelwerk/engine/DatedValues$Builder") (F1 : Fld Z h0 b "com/example/hebelwerk/hebelwerk/engine/DatedValues$Builder" "days" "[J" (.ref t1)) (F2 : Fld Z h0 b "com/example/hebelwerk/hebelwerk/engine/DatedValues$Builder" "values" "[D" (.ref t2)) (F3 : Fld Z h0 b "com/example/hebelwerk/hebelwerk/engine/DatedValues$Builder" "size" "I" (.int (2 : Int32))) (Pj1 : Arv Z h0 t1 k1 .long (256 : Int32) [(.long j0), (.long j1), (.long j2)] (.long (0 : Int64))) (Pj2 : Arv Z h0 t2 k2 .double (256 : Int32) [(.double x0_), (.double x1_), (.double x2_)] (.double (0 : UInt64))) (Eo : Exa Z h0 o "java/time/LocalDate") (Fy : Fld Z h0 o "java/time/LocalDate" "year" "I" (.int y)) (Fm : Fld Z h0 o "java/time/LocalDate" "month" "S" (.int m_)) (Fd : Fld Z h0 o "java/time/LocalDate" "day" "S" (.int k)) (hD : own_D d.toInt y.toInt m_.toInt k.toInt) (hd : -100000200000 ≤ d.toInt ∧ d.toInt ≤ 100000200000) (hfin : Jvm.Free.Fl.Fin64 xd) (hprev : j1.toInt < d.toInt) :
    MetFree l (⟨"com/example/hebelwerk/hebelwerk/engine/DatedValues$Builder", "add", "(Ljava/time/LocalDate;D)V"⟩ : MethodName) (head1 (Jvm.Cond.code (⟨"com/example/hebelwerk/hebelwerk/engine/DatedValues$Builder", "add", "(Ljava/time/LocalDate;D)V"⟩ : MethodName) prog_20_method_2_code 6 none :: ws) ({ frames := 3, cells := 0, slots := 0, locals := 44 } : Room)) (fun a_ U_ => a_ = #[(.ref b), (.ref o), (.double xd)] ∧ Z.Warmed39 U_.vm ∧ U_.heap = h0) (fun _ _ _ _ _ => True) (fun _ U_ o_ U'_ => ∃ v_ L_, o_ = .returned v_ ∧ QAD2 Z b t1 t2 k1 k2 d xd j0 j1 j2 x0_ x1_ x2_ h0 n0 v_ U'_.heap L_ ∧ FrameEnd U_ o_ U'_ L_ ({ frames := 3, cells := 0, slots := 0, locals := 44 } : Room).cells ({ frames := 3, cells := 0, slots := 0, locals := 44 } : Room).slots) := by
  refine MetFree.of_bodySF (plainFor_of_name pn_5) hisR ?_
  intro p e s m args below meth c s₁ Bd hml0 hP hK
  obtain ⟨rfl, hZ, hh⟩ := hP
  have hx := Bd.exec
  have hby := Bd.bytes
  have hml : c.maxLocals = 6 := hml0
  have hown : s.vm.findClass "com/example/hebelwerk/hebelwerk/engine/DatedValues$Builder" = some m.cls := findClass_of_methodNamed Bd.named
  have hnm := (name_of_methodNamed Bd.named Bd.method).1
  have hlk := BodyLoose.notSynchronized Bd
  have X0 : Stand p l e ({ frames := 3, cells := 0, slots := 0, locals := 44 } : Room) s m #[(.ref b), (.ref o), (.double xd)] below meth c s₁ [] 0 0 := Stand.of_body Bd
  have e0 : s₁.heap = h0 := by rw [← hh, Bd.state]; rfl
  have N0 := Fr.nil n0
  refine own_entry (P := own_End s (QAD2 Z b t1 t2 k1 k2 d xd j0 j1 j2 x0_ x1_ x2_ h0 n0) ({ frames := 3, cells := 0, slots := 0, locals := 44 } : Room).cells ({ frames := 3, cells := 0, slots := 0, locals := 44 } : Room).slots) (ef_rmAD2 m b o xd) ?_
  show own_Go p e below _ s₁ (mkF m 0 #[.val (.ref b), .val (.ref o), .val (.double xd), .second, .unset, .unset] [])
  have c1_ := Exa.ext O0.2 Ecf
  have c2_ := Fld.ext O0.2 Frg
  have c3_ := Exa.ext O0.2 Erg
  have c4_ := Fld.ext O0.2 Fmn
  have c5_ := Fld.ext O0.2 Fmx
  have c6_ := Exa.ext O0.2 Eis
  have hgt : (0 : Int32) < (lcmpW d j1) := own_lcg.mpr hprev
  refine own_st (fun t_ k_ => XS.aloadN X0.here hx rfl (hb hby d22_0) rfl rfl k_) ?_
  show own_Go p e below _ s₁ (mkF m 1 #[.val (.ref b), .val (.ref o), .val (.double xd), .second, .unset, .unset] [(.ref o)])
  obtain ⟨cq2, kq2, q2a, q2b, q2c⟩ := isOf hZ e0 Eo
  refine own_callV X0 hx (y := (⟨"java/time/LocalDate", "toEpochDay", "()J"⟩ : MethodName)) (z := (⟨"java/time/LocalDate", "toEpochDay", "()J"⟩ : MethodName)) hown (mvT hZ (hw _ (List.mem_of_getElem? (i := 129) rfl))) (mvT hZ (hw _ (List.mem_of_getElem? (i := 130) rfl))) (notFace_of_selects (args := #[]) (mvT hZ (hw _ (List.mem_of_getElem? (i := 132) rfl)))) (mvT hZ (hw _ (List.mem_of_getElem? (i := 132) rfl))) (mvT hZ (hw _ (List.mem_of_getElem? (i := 131) rfl))) (by decide) (backOf (W := 0) (rmTE l Z a0 hw [] o y m_ k d cf rg iso h0 n0 (Nat.le_trans Z0 (Keep.refl h0 [b, t1, t2]).1) O0 SEp Ecf Frg Erg Fmn Fmx SIn Eis Eo Fy Fm Fd hD hd) hZ (hw _ (List.mem_of_getElem? (i := 133) rfl)) (hw _ (List.mem_of_getElem? (i := 4) rfl)) (by decide) (by decide)) q2a q2c (g := (mkF m 1 #[.val (.ref b), .val (.ref o), .val (.double xd), .second, .unset, .unset] [(.ref o)])) rfl (by rw [hml]; rfl) (argsL := []) (rest := []) (lenOf pd_0 rfl) rfl (by show 2 * 0 + _ ≤ _; exact Nat.le_of_eq rfl) (hb hby d22_1) rfl e0 (by decide) (by decide) ?_
  rintro v1 T1 L1 X1 ⟨rfl, Nq1, hh1⟩
  have N1 := Fr.app N0 Nq1
  show own_Go p e below _ T1 (mkF m 4 #[.val (.ref b), .val (.ref o), .val (.double xd), .second, .unset, .unset] [(.long d)])
  refine own_st (fun t_ k_ => XS.lstore X1.here hx rfl (hb hby d22_4) rfl (l' := #[.val (.ref b), .val (.ref o), .val (.double xd), .second, .val (.long d), .second]) rfl k_) ?_
  show own_Go p e below _ T1 (mkF m 6 #[.val (.ref b), .val (.ref o), .val (.double xd), .second, .val (.long d), .second] [])
  refine own_st (fun t_ k_ => XS.aloadN X1.here hx rfl (hb hby d22_6) rfl rfl k_) ?_
  show own_Go p e below _ T1 (mkF m 7 #[.val (.ref b), .val (.ref o), .val (.double xd), .second, .val (.long d), .second] [(.ref b)])
  obtain ⟨T3, X3, e3, st3⟩ := getF X1 hx hZ hown (host := "") (Or.inl (hw _ (List.mem_of_getElem? (i := 89) rfl))) Via.refl hh1 F3 (g := (mkF m 7 #[.val (.ref b), .val (.ref o), .val (.double xd), .second, .val (.long d), .second] [(.ref b)])) rfl rfl (hb hby d22_7)
  refine own_st st3 ?_
  show own_Go p e below _ T3 (mkF m 10 #[.val (.ref b), .val (.ref o), .val (.double xd), .second, .val (.long d), .second] [(.int (2 : Int32))])
  refine own_st (fun t_ k_ => XS.ifNo X3.here hx rfl (hb hby d22_10) rfl (by decide) k_) ?_
  show own_Go p e below _ T3 (mkF m 13 #[.val (.ref b), .val (.ref o), .val (.double xd), .second, .val (.long d), .second] [])
  refine own_st (fun t_ k_ => XS.lload X3.here hx rfl (hb hby d22_13) rfl k_) ?_
  show own_Go p e below _ T3 (mkF m 15 #[.val (.ref b), .val (.ref o), .val (.double xd), .second, .val (.long d), .second] [(.long d)])
  refine own_st (fun t_ k_ => XS.aloadN X3.here hx rfl (hb hby d22_15) rfl rfl k_) ?_
  show own_Go p e below _ T3 (mkF m 16 #[.val (.ref b), .val (.ref o), .val (.double xd), .second, .val (.long d), .second] [(.ref b), (.long d)])
  obtain ⟨T4, X4, e4, st4⟩ := getF X3 hx hZ hown (host := "") (Or.inl (hw _ (List.mem_of_getElem? (i := 76) rfl))) Via.refl e3 F1 (g := (mkF m 16 #[.val (.ref b), .val (.ref o), .val (.double xd), .second, .val (.long d), .second] [(.ref b), (.long d)])) rfl rfl (hb hby d22_16)
  refine own_st st4 ?_
  show own_Go p e below _ T4 (mkF m 19 #[.val (.ref b), .val (.ref o), .val (.double xd), .second, .val (.long d), .second] [(.ref t1), (.long d)])
  refine own_st (fun t_ k_ => XS.aloadN X4.here hx rfl (hb hby d22_19) rfl rfl k_) ?_
  show own_Go p e below _ T4 (mkF m 20 #[.val (.ref b), .val (.ref o), .val (.double xd), .second, .val (.long d), .second] [(.ref b), (.ref t1), (.long d)])
  obtain ⟨T5, X5, e5, st5⟩ := getF X4 hx hZ hown (host := "") (Or.inl (hw _ (List.mem_of_getElem? (i := 89) rfl))) Via.refl e4 F3 (g := (mkF m 20 #[.val (.ref b), .val (.ref o), .val (.double xd), .second, .val (.long d), .second] [(.ref b), (.ref t1), (.long d)])) rfl rfl (hb hby d22_20)
  refine own_st st5 ?_
  show own_Go p e below _ T5 (mkF m 23 #[.val (.ref b), .val (.ref o), .val (.double xd), .second, .val (.long d), .second] [(.int (2 : Int32)), (.ref t1), (.long d)])
  refine own_st (fun t_ k_ => XS.iconst X5.here hx rfl (hb hby d22_23) k_) ?_
  show own_Go p e below _ T5 (mkF m 24 #[.val (.ref b), .val (.ref o), .val (.double xd), .second, .val (.long d), .second] [(.int (1 : Int32)), (.int (2 : Int32)), (.ref t1), (.long d)])
  refine own_st (fun t_ k_ => XS.isub X5.here hx rfl (hb hby d22_24) rfl k_) ?_
  show own_Go p e below _ T5 (mkF m 25 #[.val (.ref b), .val (.ref o), .val (.double xd), .second, .val (.long d), .second] [(.int (1 : Int32)), (.ref t1), (.long d)])
  obtain ⟨cl6, Ar6, q6, S6, N6', H6, G6⟩ := id Pj1
  have hin6 : ¬ ((1 : Int32) < 0 ∨ cl6.slots.size ≤ ((1 : Int32)).toNatClampNeg) := inb_of S6 ⟨by decide, by decide⟩
  refine own_st (fun t_ k_ => X5.laload hx (j := (1 : Int32)) (v := (.long j1)) (by rw [e5]; exact Ar6.1) (State.isArrayOf_alike hZ.alike Ar6.2.1) Ar6.2.2 hin6 (Has.at H6 hin6 rfl) (g := (mkF m 25 #[.val (.ref b), .val (.ref o), .val (.double xd), .second, .val (.long d), .second] [(.int (1 : Int32)), (.ref t1), (.long d)])) rfl rfl (hb hby d22_25) t_ k_) ?_
  show own_Go p e below _ T5 (mkF m 26 #[.val (.ref b), .val (.ref o), .val (.double xd), .second, .val (.long d), .second] [(.long j1), (.long d)])
  refine own_st (fun t_ k_ => XS.lcmp X5.here hx rfl (hb hby d22_26) rfl k_) ?_
  show own_Go p e below _ T5 (mkF m 27 #[.val (.ref b), .val (.ref o), .val (.double xd), .second, .val (.long d), .second] [(.int (lcmpW d j1))])
  refine own_st (fun t_ k_ => XS.ifYes X5.here hx rfl (pc0 := 27) (pc' := 64) rfl (hb hby d22_27) rfl ((if0 _ _).trans (tlt hgt).2.2.1) (by decide) (by decide) k_) ?_
  show own_Go p e below _ T5 (mkF m 64 #[.val (.ref b), .val (.ref o), .val (.double xd), .second, .val (.long d), .second] [])
  refine own_st (fun t_ k_ => XS.dloadN X5.here hx rfl (hb hby d22_64) rfl k_) ?_
  show own_Go p e below _ T5 (mkF m 65 #[.val (.ref b), .val (.ref o), .val (.double xd), .second, .val (.long d), .second] [(.double xd)])
  refine own_callS X5 hx (y := (⟨"java/lang/Double", "isFinite", "(D)Z"⟩ : MethodName)) hown (mvT hZ (hw _ (List.mem_of_getElem? (i := 141) rfl))) (mvT hZ (hw _ (List.mem_of_getElem? (i := 142) rfl))) (mvT hZ (hw _ (List.mem_of_getElem? (i := 143) rfl))) (mvT hZ (hw _ (List.mem_of_getElem? (i := 144) rfl))) (by decide) (own_finB (W := 0) hZ hw hfin (by decide) (by decide)) (g := (mkF m 65 #[.val (.ref b), .val (.ref o), .val (.double xd), .second, .val (.long d), .second] [(.double xd)])) rfl (by rw [hml]; rfl) (argsL := [(.double xd)]) (rest := []) (lenOf pd_12 rfl) rfl (by show 2 * 0 + _ ≤ _; exact Nat.le_of_eq rfl) (hb hby d22_65) rfl e5 (by decide) (by decide) ?_
  rintro v7 T7 L7 X7 ⟨rfl, rfl, hh7⟩
  have Nq7 := Fr.nil n0
  have N7 := Fr.app N1 Nq7
  show own_Go p e below _ T7 (mkF m 68 #[.val (.ref b), .val (.ref o), .val (.double xd), .second, .val (.long d), .second] [(.int (1 : Int32))])
  refine own_st (fun t_ k_ => XS.ifYes X7.here hx rfl (pc0 := 68) (pc' := 89) rfl (hb hby d22_68) rfl (by decide) (by decide) (by decide) k_) ?_
  show own_Go p e below _ T7 (mkF m 89 #[.val (.ref b), .val (.ref o), .val (.double xd), .second, .val (.long d), .second] [])
  refine own_st (fun t_ k_ => XS.aloadN X7.here hx rfl (hb hby d22_89) rfl rfl k_) ?_
  show own_Go p e below _ T7 (mkF m 90 #[.val (.ref b), .val (.ref o), .val (.double xd), .second, .val (.long d), .second] [(.ref b)])
  obtain ⟨T8, X8, e8, st8⟩ := getF X7 hx hZ hown (host := "") (Or.inl (hw _ (List.mem_of_getElem? (i := 89) rfl))) Via.refl hh7 F3 (g := (mkF m 90 #[.val (.ref b), .val (.ref o), .val (.double xd), .second, .val (.long d), .second] [(.ref b)])) rfl rfl (hb hby d22_90)
  refine own_st st8 ?_
  show own_Go p e below _ T8 (mkF m 93 #[.val (.ref b), .val (.ref o), .val (.double xd), .second, .val (.long d), .second] [(.int (2 : Int32))])
  refine own_st (fun t_ k_ => XS.aloadN X8.here hx rfl (hb hby d22_93) rfl rfl k_) ?_
  show own_Go p e below _ T8 (mkF m 94 #[.val (.ref b), .val (.ref o), .val (.double xd), .second, .val (.long d), .second] [(.ref b), (.int (2 : Int32))])
  obtain ⟨T9, X9, e9, st9⟩ := getF X8 hx hZ hown (host := "") (Or.inl (hw _ (List.mem_of_getElem? (i := 76) rfl))) Via.refl e8 F1 (g := (mkF m 94 #[.val (.ref b), .val (.ref o), .val (.double xd), .second, .val (.long d), .second] [(.ref b), (.int (2 : Int32))])) rfl rfl (hb hby d22_94)
  refine own_st st9 ?_
  show own_Go p e below _ T9 (mkF m 97 #[.val (.ref b), .val (.ref o), .val (.double xd), .second, .val (.long d), .second] [(.ref t1), (.int (2 : Int32))])
  obtain ⟨cl10, Ar10, -, S10, N10', -, -⟩ := id Pj1
  refine own_st (fun t_ k_ => X9.arraylength hx (by rw [e9]; exact Ar10.1) (State.isArrayOf_alike hZ.alike Ar10.2.1) (g := (mkF m 97 #[.val (.ref b), .val (.ref o), .val (.double xd), .second, .val (.long d), .second] [(.ref t1), (.int (2 : Int32))])) rfl rfl (hb hby d22_97) t_ k_) ?_
  rw [len_of S10 N10']
  show own_Go p e below _ T9 (mkF m 98 #[.val (.ref b), .val (.ref o), .val (.double xd), .second, .val (.long d), .second] [(.int (256 : Int32)), (.int (2 : Int32))])
  refine own_st (fun t_ k_ => XS.icmpYes X9.here hx rfl (pc0 := 98) (pc' := 135) rfl (hb hby d22_98) rfl (by decide) (by decide) (by decide) k_) ?_
  show own_Go p e below _ T9 (mkF m 135 #[.val (.ref b), .val (.ref o), .val (.double xd), .second, .val (.long d), .second] [])
  refine own_st (fun t_ k_ => XS.aloadN X9.here hx rfl (hb hby d22_135) rfl rfl k_) ?_
  show own_Go p e below _ T9 (mkF m 136 #[.val (.ref b), .val (.ref o), .val (.double xd), .second, .val (.long d), .second] [(.ref b)])
  obtain ⟨T11, X11, e11, st11⟩ := getF X9 hx hZ hown (host := "") (Or.inl (hw _ (List.mem_of_getElem? (i := 76) rfl))) Via.refl e9 F1 (g := (mkF m 136 #[.val (.ref b), .val (.ref o), .val (.double xd), .second, .val (.long d), .second] [(.ref b)])) rfl rfl (hb hby d22_136)
  refine own_st st11 ?_
  show own_Go p e below _ T11 (mkF m 139 #[.val (.ref b), .val (.ref o), .val (.double xd), .second, .val (.long d), .second] [(.ref t1)])
  refine own_st (fun t_ k_ => XS.aloadN X11.here hx rfl (hb hby d22_139) rfl rfl k_) ?_
  show own_Go p e below _ T11 (mkF m 140 #[.val (.ref b), .val (.ref o), .val (.double xd), .second, .val (.long d), .second] [(.ref b), (.ref t1)])
  obtain ⟨T12, X12, e12, st12⟩ := getF X11 hx hZ hown (host := "") (Or.inl (hw _ (List.mem_of_getElem? (i := 89) rfl))) Via.refl e11 F3 (g := (mkF m 140 #[.val (.ref b), .val (.ref o), .val (.double xd), .second, .val (.long d), .second] [(.ref b), (.ref t1)])) rfl rfl (hb hby d22_140)
  refine own_st st12 ?_
  show own_Go p e below _ T12 (mkF m 143 #[.val (.ref b), .val (.ref o), .val (.double xd), .second, .val (.long d), .second] [(.int (2 : Int32)), (.ref t1)])
  refine own_st (fun t_ k_ => XS.lload X12.here hx rfl (hb hby d22_143) rfl k_) ?_
  show own_Go p e below _ T12 (mkF m 145 #[.val (.ref b), .val (.ref o), .val (.double xd), .second, .val (.long d), .second] [(.long d), (.int (2 : Int32)), (.ref t1)])
  obtain ⟨cl13, Ar13, q13, S13, N13', H13, G13⟩ := id Pj1
  have hin13 : ¬ ((2 : Int32) < 0 ∨ cl13.slots.size ≤ ((2 : Int32)).toNatClampNeg) := inb_of S13 ⟨by decide, by decide⟩
  obtain ⟨T13, h13, X13, e13, W13, st13⟩ := stJ X12 hx hZ e12 Ar13 (j := (2 : Int32)) hin13 (g := (mkF m 145 #[.val (.ref b), .val (.ref o), .val (.double xd), .second, .val (.long d), .second] [(.long d), (.int (2 : Int32)), (.ref t1)])) rfl rfl (hb hby d22_145)
  have V13 : Arv Z h13 t1 k1 .long (256 : Int32) [(.long j0), (.long j1), (.long d)] (.long (0 : Int64)) := Arv.set Ar13 q13 S13 N13' H13 G13 rfl W13 2 rfl (Nat.le_of_ble_eq_true rfl)
  refine own_st st13 ?_
  have N13 := Fr.snoc X13 N7 g_t1
  have K13 : Keep h0 h13 [b, t1, t2] := (Keep.refl h0 [b, t1, t2]).wr W13 (Or.inl (List.mem_of_getElem? (i := 1) rfl))
  show own_Go p e below _ T13 (mkF m 146 #[.val (.ref b), .val (.ref o), .val (.double xd), .second, .val (.long d), .second] [])
  refine own_st (fun t_ k_ => XS.aloadN X13.here hx rfl (hb hby d22_146) rfl rfl k_) ?_
  show own_Go p e below _ T13 (mkF m 147 #[.val (.ref b), .val (.ref o), .val (.double xd), .second, .val (.long d), .second] [(.ref b)])
  have ne14 : b ≠ t1 := (Exa.neArv Eb Pj1 (hw _ (List.mem_of_getElem? (i := 69) rfl)))
  have f15 := (Fld.other W13 F2 (Or.inl ne14))
  obtain ⟨T16, X16, e16, st16⟩ := getF X13 hx hZ hown (host := "") (Or.inl (hw _ (List.mem_of_getElem? (i := 79) rfl))) Via.refl e13 f15 (g := (mkF m 147 #[.val (.ref b), .val (.ref o), .val (.double xd), .second, .val (.long d), .second] [(.ref b)])) rfl rfl (hb hby d22_147)
  refine own_st st16 ?_
  show own_Go p e below _ T16 (mkF m 150 #[.val (.ref b), .val (.ref o), .val (.double xd), .second, .val (.long d), .second] [(.ref t2)])
  refine own_st (fun t_ k_ => XS.aloadN X16.here hx rfl (hb hby d22_150) rfl rfl k_) ?_
  show own_Go p e below _ T16 (mkF m 151 #[.val (.ref b), .val (.ref o), .val (.double xd), .second, .val (.long d), .second] [(.ref b), (.ref t2)])
  have f17 := (Fld.other W13 F3 (Or.inl ne14))
  obtain ⟨T18, X18, e18, st18⟩ := getF X16 hx hZ hown (host := "") (Or.inl (hw _ (List.mem_of_getElem? (i := 89) rfl))) Via.refl e16 f17 (g := (mkF m 151 #[.val (.ref b), .val (.ref o), .val (.double xd), .second, .val (.long d), .second] [(.ref b), (.ref t2)])) rfl rfl (hb hby d22_151)
  refine own_st st18 ?_
  show own_Go p e below _ T18 (mkF m 154 #[.val (.ref b), .val (.ref o), .val (.double xd), .second, .val (.long d), .second] [(.int (2 : Int32)), (.ref t2)])
  refine own_st (fun t_ k_ => XS.dloadN X18.here hx rfl (hb hby d22_154) rfl k_) ?_
  show own_Go p e below _ T18 (mkF m 155 #[.val (.ref b), .val (.ref o), .val (.double xd), .second, .val (.long d), .second] [(.double xd), (.int (2 : Int32)), (.ref t2)])
  have ne20 : t2 ≠ t1 := (own_arvNe Pj2 Pj1 (by decide))
  have f21 := (Pj2.other W13 ne20)
  obtain ⟨cl19, Ar19, q19, S19, N19', H19, G19⟩ := id f21
  have hin19 : ¬ ((2 : Int32) < 0 ∨ cl19.slots.size ≤ ((2 : Int32)).toNatClampNeg) := inb_of S19 ⟨by decide, by decide⟩
  obtain ⟨T19, h19, X19, e19, W19, st19⟩ := stD X18 hx hZ e18 Ar19 (j := (2 : Int32)) hin19 (g := (mkF m 155 #[.val (.ref b), .val (.ref o), .val (.double xd), .second, .val (.long d), .second] [(.double xd), (.int (2 : Int32)), (.ref t2)])) rfl rfl (hb hby d22_155)
  have V19 : Arv Z h19 t2 k2 .double (256 : Int32) [(.double x0_), (.double x1_), (.double xd)] (.double (0 : UInt64)) := Arv.set Ar19 q19 S19 N19' H19 G19 rfl W19 2 rfl (Nat.le_of_ble_eq_true rfl)
  refine own_st st19 ?_
  have N19 := Fr.snoc X19 N13 g_t2
  have K19 : Keep h0 h19 [b, t1, t2] := K13.wr W19 (Or.inl (List.mem_of_getElem? (i := 2) rfl))
  show own_Go p e below _ T19 (mkF m 156 #[.val (.ref b), .val (.ref o), .val (.double xd), .second, .val (.long d), .second] [])
  refine own_st (fun t_ k_ => XS.aloadN X19.here hx rfl (hb hby d22_156) rfl rfl k_) ?_
  show own_Go p e below _ T19 (mkF m 157 #[.val (.ref b), .val (.ref o), .val (.double xd), .second, .val (.long d), .second] [(.ref b)])
  refine own_st (fun t_ k_ => XS.dup X19.here hx rfl (hb hby d22_157) rfl rfl k_) ?_
  show own_Go p e below _ T19 (mkF m 158 #[.val (.ref b), .val (.ref o), .val (.double xd), .second, .val (.long d), .second] [(.ref b), (.ref b)])
  have ne22 : b ≠ t2 := (Exa.neArv Eb Pj2 (hw _ (List.mem_of_getElem? (i := 69) rfl)))
  have f23 := (Fld.other W19 f17 (Or.inl ne22))
  obtain ⟨T24, X24, e24, st24⟩ := getF X19 hx hZ hown (host := "") (Or.inl (hw _ (List.mem_of_getElem? (i := 89) rfl))) Via.refl e19 f23 (g := (mkF m 158 #[.val (.ref b), .val (.ref o), .val (.double xd), .second, .val (.long d), .second] [(.ref b), (.ref b)])) rfl rfl (hb hby d22_158)
  refine own_st st24 ?_
  show own_Go p e below _ T24 (mkF m 161 #[.val (.ref b), .val (.ref o), .val (.double xd), .second, .val (.long d), .second] [(.int (2 : Int32)), (.ref b)])
  refine own_st (fun t_ k_ => XS.iconst X24.here hx rfl (hb hby d22_161) k_) ?_
  show own_Go p e below _ T24 (mkF m 162 #[.val (.ref b), .val (.ref o), .val (.double xd), .second, .val (.long d), .second] [(.int (1 : Int32)), (.int (2 : Int32)), (.ref b)])
  refine own_st (fun t_ k_ => XS.iadd X24.here hx rfl (hb hby d22_162) rfl k_) ?_
  show own_Go p e below _ T24 (mkF m 163 #[.val (.ref b), .val (.ref o), .val (.double xd), .second, .val (.long d), .second] [(.int (3 : Int32)), (.ref b)])
  have f26 := (Exa.wr W13 Eb)
  have f27 := (Exa.wr W19 f26)
  obtain ⟨T25, h25, X25, e25, W25, st25⟩ := putF X24 hx hZ hown (host := "") (Or.inl (hw _ (List.mem_of_getElem? (i := 89) rfl))) Via.refl e24 f23 f27 (Or.inl (hw _ (List.mem_of_getElem? (i := 90) rfl))) (hw _ (List.mem_of_getElem? (i := 69) rfl)) (ty := .int) (by decide) rfl rfl (g := (mkF m 163 #[.val (.ref b), .val (.ref o), .val (.double xd), .second, .val (.long d), .second] [(.int (3 : Int32)), (.ref b)])) rfl rfl (hb hby d22_163)
  refine own_st st25 ?_
  have N25 := Fr.snoc X25 N19 g_b
  have K25 : Keep h0 h25 [b, t1, t2] := K19.wr W25 (Or.inl (List.mem_of_getElem? (i := 0) rfl))
  have Fw25 := Fld.same W25 f23
  show own_Go p e below _ T25 (mkF m 166 #[.val (.ref b), .val (.ref o), .val (.double xd), .second, .val (.long d), .second] [])
  have f28 := (Exa.wr W25 f27)
  have f29 := (Fld.other W13 F1 (Or.inl ne14))
  have f30 := (Fld.other W19 f29 (Or.inl ne22))
  have f31 := (Fld.other W25 f30 (Or.inr (slot_ne (Or.inl (hw _ (List.mem_of_getElem? (i := 77) rfl))) (Or.inl (hw _ (List.mem_of_getElem? (i := 90) rfl))) (by decide) (t := (.array .long)) (t' := .int) (by decide) (by decide))))
  have f32 := (Fld.other W19 f15 (Or.inl ne22))
  have f33 := (Fld.other W25 f32 (Or.inr (slot_ne (Or.inl (hw _ (List.mem_of_getElem? (i := 80) rfl))) (Or.inl (hw _ (List.mem_of_getElem? (i := 90) rfl))) (by decide) (t := (.array .double)) (t' := .int) (by decide) (by decide))))
  have f34 := (V13.other W19 (Ne.symm ne20))
  have f35 := (f34.other W25 (Ne.symm ne14))
  have f36 := (V19.other W25 (Ne.symm ne22))
  refine own_ret0 X25 hx hlk Bd.returns (hb hby d22_166) ?_ (by decide) (by decide)
  show QAD2 Z b t1 t2 k1 k2 d xd j0 j1 j2 x0_ x1_ x2_ h0 n0 _ T25.heap _
  rw [e25]
  exact ⟨rfl, N25, K25, f28, f31, f33, Fw25, f35, f36⟩
def Q0 (n0 : Nat) (v : Option Value) (h : Heap) (L : List Loc) : Prop := v = some (.int 1) ∧ Fr n0 L
def own_N4 (n : Int32) : Prop := n = (0 : Int32) ∨ n = (1 : Int32) ∨ n = (2 : Int32) ∨ n = (3 : Int32)
theorem own_and3 (x : Int32) : own_N4 (x &&& (3 : Int32)) := by
  have h := c_and x (3 : Int32) (by decide)
  have e : (3 : Int32).toInt = 3 := rfl
  have h3 : (x &&& (3 : Int32)).toInt = 0 ∨ (x &&& (3 : Int32)).toInt = 1 ∨ (x &&& (3 : Int32)).toInt = 2 ∨ (x &&& (3 : Int32)).toInt = 3 := by omega
  unfold own_N4
  simp only [← Int32.toInt_inj]
  exact h3
theorem own_b0 {a : Int} (h : -99999999999 ≤ a ∧ a ≤ 99999999999) : -100000200000 ≤ a ∧ a ≤ 100000200000 := by omega
theorem own_b0' {a : Int} (h : -99999999999 ≤ a ∧ a ≤ 99999999999) : -100000100000 ≤ a ∧ a ≤ 100000100000 := by omega
theorem own_b1 {a b : Int} (h : -99999999999 ≤ a ∧ a ≤ 99999999999) (h1 : a < b ∧ b ≤ a + 65536) : -100000100000 ≤ b ∧ b ≤ 100000100000 := by omega
theorem own_b1' {a b : Int} (h : -99999999999 ≤ a ∧ a ≤ 99999999999) (h1 : a < b ∧ b ≤ a + 65536) : -100000200000 ≤ b ∧ b ≤ 100000200000 := by omega
theorem own_b2 {a b c : Int} (h : -99999999999 ≤ a ∧ a ≤ 99999999999) (h1 : a < b ∧ b ≤ a + 65536) (h2 : b < c ∧ c ≤ b + 65536) : -100000200000 ≤ c ∧ c ≤ 100000200000 := by omega
theorem pd_13 : parseMethodDescriptor "()V" = some ⟨[], none⟩ := by decide +kernel
theorem pd_14 : parseMethodDescriptor "()Lcom/example/hebelwerk/hebelwerk/engine/DatedValues;" = some ⟨[], some (.object "com/example/hebelwerk/hebelwerk/engine/DatedValues")⟩ := by decide +kernel
theorem pd_15 : parseMethodDescriptor "()I" = some ⟨[], some .int⟩ := by decide +kernel
theorem pd_16 : parseMethodDescriptor "(Ljava/time/LocalDate;D)V" = some ⟨[(.object "java/time/LocalDate"), .double], none⟩ := by decide +kernel
theorem pd_17 : parseMethodDescriptor "(I)Ljava/time/LocalDate;" = some ⟨[.int], some (.object "java/time/LocalDate")⟩ := by decide +kernel
theorem pd_18 : parseMethodDescriptor "(I)D" = some ⟨[.int], some .double⟩ := by decide +kernel
theorem pn_7 : plainName "com/example/hebelwerk/hebelwerk/engine/BuilderBuildPinLaw" = true := by first | (simp [plainName, overriddenIn]; done) | decide +kernel
theorem ef_rm0 (m : MethodId) (x0 : Int32) (x1 : Int64) (x2 : Int32) (x3 : Int32) (x4 : Int32) (x5 : Int32) : entryFrame m #[(.int x0), (.long x1), (.int x2), (.int x3), (.int x4), (.int x5)] maxLocals = mkF m 0 #[.val (.int x0), .val (.long x1), .second, .val (.int x2), .val (.int x3), .val (.int x4), .val (.int x5), .unset, .unset, .unset, .unset, .unset, .unset, .unset, .unset, .unset, .unset, .unset, .unset, .unset, .unset, .unset, .unset, .unset, .unset, .unset] [] := by first | (simp [entryFrame, mkF, argsToLocals, Value.category, maxLocals]; done) | rfl
set_option maxRecDepth 65536 in
set_option maxHeartbeats 40000000 in
theorem rm0 (l : Launch) (Z : State) (a0 : Array Value) (hw : ∀ d ∈ tables_1, d.before a0 Z = true) (ws : List Jvm.Cond) (nn : Int32) (dd : Int64) (ga gb va vb : Int32) (cf rg iso : Addr) (h0 : Heap) (n0 : Nat) (Z0 : n0 ≤ h0.size) (O0 : Old Z n0 h0) (SEp : Sta Z Z.heap "java/time/temporal/ChronoField" "EPOCH_DAY" "Ljava/time/temporal/ChronoField;" (.ref cf)) (Ecf : Exa Z Z.heap cf "java/time/temporal/ChronoField") (Frg : Fld Z Z.heap cf "java/time/temporal/ChronoField" "range" "Ljava/time/temporal/ValueRange;" (.ref rg)) (Erg : Exa Z Z.heap rg "java/time/temporal/ValueRange") (Fmn : Fld Z Z.heap rg "java/time/temporal/ValueRange" "minSmallest" "J" (.long (-365243219162 : Int64))) (Fmx : Fld Z Z.heap rg "java/time/temporal/ValueRange" "maxLargest" "J" (.long (365241780471 : Int64))) (SIn : Sta Z Z.heap "java/time/chrono/IsoChronology" "INSTANCE" "Ljava/time/chrono/IsoChronology;" (.ref iso)) (Eis : Exa Z Z.heap iso "java/time/chrono/IsoChronology") :
    MetFree l x (head1 (Jvm.Cond.code x code maxLocals ret :: ws) room_1) (fun a_ U_ => a_ = #[(.int nn), (.long dd), (.int ga), (.int gb), (.int va), (.int vb)] ∧ Z.Warmed39 U_.vm ∧ U_.heap = h0) (fun _ _ _ _ _ => True) (fun _ U_ o_ U'_ => ∃ v_ L_, o_ = .returned v_ ∧ Q0 n0 v_ U'_.heap L_ ∧ FrameEnd U_ o_ U'_ L_ 32 1152) := by
  refine MetFree.of_bodySF (plainFor_of_name pn_7) hisR ?_
  intro p e s m args below meth c s₁ Bd hml0 hP hK
  obtain ⟨rfl, hZ, hh⟩ := hP
  have hx := Bd.exec
  have hby := Bd.bytes
  have hml : c.maxLocals = 26 := hml0
  have hown : s.vm.findClass "com/example/hebelwerk/hebelwerk/engine/BuilderBuildPinLaw" = some m.cls := findClass_of_methodNamed Bd.named
  have hnm := (name_of_methodNamed Bd.named Bd.method).1
  have hlk := BodyLoose.notSynchronized Bd
  have X0 : Stand p l e room_1 s m #[(.int nn), (.long dd), (.int ga), (.int gb), (.int va), (.int vb)] below meth c s₁ [] 0 0 := Stand.of_body Bd
  have e0 : s₁.heap = h0 := by rw [← hh, Bd.state]; rfl
  have N0 := Fr.nil n0
  refine own_entry (P := own_End s (Q0 n0) 32 1152) (ef_rm0 m nn dd ga gb va vb) ?_
  show own_Go p e below _ s₁ (mkF m 0 #[.val (.int nn), .val (.long dd), .second, .val (.int ga), .val (.int gb), .val (.int va), .val (.int vb), .unset, .unset, .unset, .unset, .unset, .unset, .unset, .unset, .unset, .unset, .unset, .unset, .unset, .unset, .unset, .unset, .unset, .unset, .unset] [])
  have c1_ := Exa.ext O0.2 Ecf
  have c2_ := Fld.ext O0.2 Frg
  have c3_ := Exa.ext O0.2 Erg
  have c4_ := Fld.ext O0.2 Fmn
  have c5_ := Fld.ext O0.2 Fmx
  have c6_ := Exa.ext O0.2 Eis
  refine own_st (fun t_ k_ => XS.iloadN X0.here hx rfl (hb hby at_0) rfl k_) ?_
  show own_Go p e below _ s₁ (mkF m 1 #[.val (.int nn), .val (.long dd), .second, .val (.int ga), .val (.int gb), .val (.int va), .val (.int vb), .unset, .unset, .unset, .unset, .unset, .unset, .unset, .unset, .unset, .unset, .unset, .unset, .unset, .unset, .unset, .unset, .unset, .unset, .unset] [(.int nn)])
  refine own_st (fun t_ k_ => XS.iconst X0.here hx rfl (hb hby at_1) k_) ?_
  show own_Go p e below _ s₁ (mkF m 2 #[.val (.int nn), .val (.long dd), .second, .val (.int ga), .val (.int gb), .val (.int va), .val (.int vb), .unset, .unset, .unset, .unset, .unset, .unset, .unset, .unset, .unset, .unset, .unset, .unset, .unset, .unset, .unset, .unset, .unset, .unset, .unset] [(.int (3 : Int32)), (.int nn)])
  refine own_st (fun t_ k_ => XS.iand X0.here hx rfl (hb hby at_2) rfl k_) ?_
  show own_Go p e below _ s₁ (mkF m 3 #[.val (.int nn), .val (.long dd), .second, .val (.int ga), .val (.int gb), .val (.int va), .val (.int vb), .unset, .unset, .unset, .unset, .unset, .unset, .unset, .unset, .unset, .unset, .unset, .unset, .unset, .unset, .unset, .unset, .unset, .unset, .unset] [(.int (nn &&& (3 : Int32)))])
  have d_cnt : own_N4 (nn &&& (3 : Int32)) := own_and3 _
  generalize h_cnt : (nn &&& (3 : Int32)) = cnt at d_cnt ⊢
  show own_Go p e below _ s₁ (mkF m 3 #[.val (.int nn), .val (.long dd), .second, .val (.int ga), .val (.int gb), .val (.int va), .val (.int vb), .unset, .unset, .unset, .unset, .unset, .unset, .unset, .unset, .unset, .unset, .unset, .unset, .unset, .unset, .unset, .unset, .unset, .unset, .unset] [(.int cnt)])
  refine own_st (fun t_ k_ => XS.istore X0.here hx rfl (hb hby at_3) rfl (l' := #[.val (.int nn), .val (.long dd), .second, .val (.int ga), .val (.int gb), .val (.int va), .val (.int vb), .val (.int cnt), .unset, .unset, .unset, .unset, .unset, .unset, .unset, .unset, .unset, .unset, .unset, .unset, .unset, .unset, .unset, .unset, .unset, .unset]) rfl k_) ?_
  show own_Go p e below _ s₁ (mkF m 5 #[.val (.int nn), .val (.long dd), .second, .val (.int ga), .val (.int gb), .val (.int va), .val (.int vb), .val (.int cnt), .unset, .unset, .unset, .unset, .unset, .unset, .unset, .unset, .unset, .unset, .unset, .unset, .unset, .unset, .unset, .unset, .unset, .unset] [])
  refine own_st (fun t_ k_ => XS.lloadN X0.here hx rfl (hb hby at_5) rfl k_) ?_
  show own_Go p e below _ s₁ (mkF m 6 #[.val (.int nn), .val (.long dd), .second, .val (.int ga), .val (.int gb), .val (.int va), .val (.int vb), .val (.int cnt), .unset, .unset, .unset, .unset, .unset, .unset, .unset, .unset, .unset, .unset, .unset, .unset, .unset, .unset, .unset, .unset, .unset, .unset] [(.long dd)])
  refine own_st (fun t_ k_ => X0.ldc2J hx hown (mvT hZ (hw _ (List.mem_of_getElem? (i := 0) rfl))) rfl (hb hby at_6) k_) ?_
  show own_Go p e below _ s₁ (mkF m 9 #[.val (.int nn), .val (.long dd), .second, .val (.int ga), .val (.int gb), .val (.int va), .val (.int vb), .val (.int cnt), .unset, .unset, .unset, .unset, .unset, .unset, .unset, .unset, .unset, .unset, .unset, .unset, .unset, .unset, .unset, .unset, .unset, .unset] [(.long (100000000000 : Int64)), (.long dd)])
  refine own_st (fun t_ k_ => XS.lrem X0.here hx rfl (hb hby at_9) rfl (by decide) k_) ?_
  show own_Go p e below _ s₁ (mkF m 10 #[.val (.int nn), .val (.long dd), .second, .val (.int ga), .val (.int gb), .val (.int va), .val (.int vb), .val (.int cnt), .unset, .unset, .unset, .unset, .unset, .unset, .unset, .unset, .unset, .unset, .unset, .unset, .unset, .unset, .unset, .unset, .unset, .unset] [(.long (dd - (dd / (100000000000 : Int64)) * (100000000000 : Int64)))])
  have d_D0 : -99999999999 ≤ (dd - (dd / (100000000000 : Int64)) * (100000000000 : Int64)).toInt ∧ (dd - (dd / (100000000000 : Int64)) * (100000000000 : Int64)).toInt ≤ 99999999999 := own_day0 dd
  generalize h_D0 : (dd - (dd / (100000000000 : Int64)) * (100000000000 : Int64)) = D0 at d_D0 ⊢
  show own_Go p e below _ s₁ (mkF m 10 #[.val (.int nn), .val (.long dd), .second, .val (.int ga), .val (.int gb), .val (.int va), .val (.int vb), .val (.int cnt), .unset, .unset, .unset, .unset, .unset, .unset, .unset, .unset, .unset, .unset, .unset, .unset, .unset, .unset, .unset, .unset, .unset, .unset] [(.long D0)])
  refine own_st (fun t_ k_ => XS.lstore X0.here hx rfl (hb hby at_10) rfl (l' := #[.val (.int nn), .val (.long dd), .second, .val (.int ga), .val (.int gb), .val (.int va), .val (.int vb), .val (.int cnt), .val (.long D0), .second, .unset, .unset, .unset, .unset, .unset, .unset, .unset, .unset, .unset, .unset, .unset, .unset, .unset, .unset, .unset, .unset]) rfl k_) ?_
  show own_Go p e below _ s₁ (mkF m 12 #[.val (.int nn), .val (.long dd), .second, .val (.int ga), .val (.int gb), .val (.int va), .val (.int vb), .val (.int cnt), .val (.long D0), .second, .unset, .unset, .unset, .unset, .unset, .unset, .unset, .unset, .unset, .unset, .unset, .unset, .unset, .unset, .unset, .unset] [])
  refine own_st (fun t_ k_ => XS.lload X0.here hx rfl (hb hby at_12) rfl k_) ?_
  show own_Go p e below _ s₁ (mkF m 14 #[.val (.int nn), .val (.long dd), .second, .val (.int ga), .val (.int gb), .val (.int va), .val (.int vb), .val (.int cnt), .val (.long D0), .second, .unset, .unset, .unset, .unset, .unset, .unset, .unset, .unset, .unset, .unset, .unset, .unset, .unset, .unset, .unset, .unset] [(.long D0)])
  refine own_st (fun t_ k_ => XS.iloadN X0.here hx rfl (hb hby at_14) rfl k_) ?_
  show own_Go p e below _ s₁ (mkF m 15 #[.val (.int nn), .val (.long dd), .second, .val (.int ga), .val (.int gb), .val (.int va), .val (.int vb), .val (.int cnt), .val (.long D0), .second, .unset, .unset, .unset, .unset, .unset, .unset, .unset, .unset, .unset, .unset, .unset, .unset, .unset, .unset, .unset, .unset] [(.int ga), (.long D0)])
  refine own_st (fun t_ k_ => X0.ldcI hx hown (mvT hZ (hw _ (List.mem_of_getElem? (i := 1) rfl))) rfl (hb hby at_15) k_) ?_
  show own_Go p e below _ s₁ (mkF m 17 #[.val (.int nn), .val (.long dd), .second, .val (.int ga), .val (.int gb), .val (.int va), .val (.int vb), .val (.int cnt), .val (.long D0), .second, .unset, .unset, .unset, .unset, .unset, .unset, .unset, .unset, .unset, .unset, .unset, .unset, .unset, .unset, .unset, .unset] [(.int (65535 : Int32)), (.int ga), (.long D0)])
  refine own_st (fun t_ k_ => XS.iand X0.here hx rfl (hb hby at_17) rfl k_) ?_
  show own_Go p e below _ s₁ (mkF m 18 #[.val (.int nn), .val (.long dd), .second, .val (.int ga), .val (.int gb), .val (.int va), .val (.int vb), .val (.int cnt), .val (.long D0), .second, .unset, .unset, .unset, .unset, .unset, .unset, .unset, .unset, .unset, .unset, .unset, .unset, .unset, .unset, .unset, .unset] [(.int (ga &&& (65535 : Int32))), (.long D0)])
  refine own_st (fun t_ k_ => XS.i2l X0.here hx rfl (hb hby at_18) rfl k_) ?_
  show own_Go p e below _ s₁ (mkF m 19 #[.val (.int nn), .val (.long dd), .second, .val (.int ga), .val (.int gb), .val (.int va), .val (.int vb), .val (.int cnt), .val (.long D0), .second, .unset, .unset, .unset, .unset, .unset, .unset, .unset, .unset, .unset, .unset, .unset, .unset, .unset, .unset, .unset, .unset] [(.long ((ga &&& (65535 : Int32)).toInt64)), (.long D0)])
  refine own_st (fun t_ k_ => XS.ladd X0.here hx rfl (hb hby at_19) rfl k_) ?_
  show own_Go p e below _ s₁ (mkF m 20 #[.val (.int nn), .val (.long dd), .second, .val (.int ga), .val (.int gb), .val (.int va), .val (.int vb), .val (.int cnt), .val (.long D0), .second, .unset, .unset, .unset, .unset, .unset, .unset, .unset, .unset, .unset, .unset, .unset, .unset, .unset, .unset, .unset, .unset] [(.long (D0 + ((ga &&& (65535 : Int32)).toInt64)))])
  refine own_st (fun t_ k_ => XS.lconst X0.here hx rfl (hb hby at_20) k_) ?_
  show own_Go p e below _ s₁ (mkF m 21 #[.val (.int nn), .val (.long dd), .second, .val (.int ga), .val (.int gb), .val (.int va), .val (.int vb), .val (.int cnt), .val (.long D0), .second, .unset, .unset, .unset, .unset, .unset, .unset, .unset, .unset, .unset, .unset, .unset, .unset, .unset, .unset, .unset, .unset] [(.long (1 : Int64)), (.long (D0 + ((ga &&& (65535 : Int32)).toInt64)))])
  refine own_st (fun t_ k_ => XS.ladd X0.here hx rfl (hb hby at_21) rfl k_) ?_
  show own_Go p e below _ s₁ (mkF m 22 #[.val (.int nn), .val (.long dd), .second, .val (.int ga), .val (.int gb), .val (.int va), .val (.int vb), .val (.int cnt), .val (.long D0), .second, .unset, .unset, .unset, .unset, .unset, .unset, .unset, .unset, .unset, .unset, .unset, .unset, .unset, .unset, .unset, .unset] [(.long ((D0 + ((ga &&& (65535 : Int32)).toInt64)) + (1 : Int64)))])
  have d_D1 : D0.toInt < ((D0 + ((ga &&& (65535 : Int32)).toInt64)) + (1 : Int64)).toInt ∧ ((D0 + ((ga &&& (65535 : Int32)).toInt64)) + (1 : Int64)).toInt ≤ D0.toInt + 65536 := own_day1 D0 ga (own_b0' d_D0)
  generalize h_D1 : ((D0 + ((ga &&& (65535 : Int32)).toInt64)) + (1 : Int64)) = D1 at d_D1 ⊢
  show own_Go p e below _ s₁ (mkF m 22 #[.val (.int nn), .val (.long dd), .second, .val (.int ga), .val (.int gb), .val (.int va), .val (.int vb), .val (.int cnt), .val (.long D0), .second, .unset, .unset, .unset, .unset, .unset, .unset, .unset, .unset, .unset, .unset, .unset, .unset, .unset, .unset, .unset, .unset] [(.long D1)])
  refine own_st (fun t_ k_ => XS.lstore X0.here hx rfl (hb hby at_22) rfl (l' := #[.val (.int nn), .val (.long dd), .second, .val (.int ga), .val (.int gb), .val (.int va), .val (.int vb), .val (.int cnt), .val (.long D0), .second, .val (.long D1), .second, .unset, .unset, .unset, .unset, .unset, .unset, .unset, .unset, .unset, .unset, .unset, .unset, .unset, .unset]) rfl k_) ?_
  show own_Go p e below _ s₁ (mkF m 24 #[.val (.int nn), .val (.long dd), .second, .val (.int ga), .val (.int gb), .val (.int va), .val (.int vb), .val (.int cnt), .val (.long D0), .second, .val (.long D1), .second, .unset, .unset, .unset, .unset, .unset, .unset, .unset, .unset, .unset, .unset, .unset, .unset, .unset, .unset] [])
  refine own_st (fun t_ k_ => XS.lload X0.here hx rfl (hb hby at_24) rfl k_) ?_
  show own_Go p e below _ s₁ (mkF m 26 #[.val (.int nn), .val (.long dd), .second, .val (.int ga), .val (.int gb), .val (.int va), .val (.int vb), .val (.int cnt), .val (.long D0), .second, .val (.long D1), .second, .unset, .unset, .unset, .unset, .unset, .unset, .unset, .unset, .unset, .unset, .unset, .unset, .unset, .unset] [(.long D1)])
  refine own_st (fun t_ k_ => XS.iload X0.here hx rfl (hb hby at_26) rfl k_) ?_
  show own_Go p e below _ s₁ (mkF m 28 #[.val (.int nn), .val (.long dd), .second, .val (.int ga), .val (.int gb), .val (.int va), .val (.int vb), .val (.int cnt), .val (.long D0), .second, .val (.long D1), .second, .unset, .unset, .unset, .unset, .unset, .unset, .unset, .unset, .unset, .unset, .unset, .unset, .unset, .unset] [(.int gb), (.long D1)])
  refine own_st (fun t_ k_ => X0.ldcI hx hown (mvT hZ (hw _ (List.mem_of_getElem? (i := 1) rfl))) rfl (hb hby at_28) k_) ?_
  show own_Go p e below _ s₁ (mkF m 30 #[.val (.int nn), .val (.long dd), .second, .val (.int ga), .val (.int gb), .val (.int va), .val (.int vb), .val (.int cnt), .val (.long D0), .second, .val (.long D1), .second, .unset, .unset, .unset, .unset, .unset, .unset, .unset, .unset, .unset, .unset, .unset, .unset, .unset, .unset] [(.int (65535 : Int32)), (.int gb), (.long D1)])
  refine own_st (fun t_ k_ => XS.iand X0.here hx rfl (hb hby at_30) rfl k_) ?_
  show own_Go p e below _ s₁ (mkF m 31 #[.val (.int nn), .val (.long dd), .second, .val (.int ga), .val (.int gb), .val (.int va), .val (.int vb), .val (.int cnt), .val (.long D0), .second, .val (.long D1), .second, .unset, .unset, .unset, .unset, .unset, .unset, .unset, .unset, .unset, .unset, .unset, .unset, .unset, .unset] [(.int (gb &&& (65535 : Int32))), (.long D1)])
  refine own_st (fun t_ k_ => XS.i2l X0.here hx rfl (hb hby at_31) rfl k_) ?_
  show own_Go p e below _ s₁ (mkF m 32 #[.val (.int nn), .val (.long dd), .second, .val (.int ga), .val (.int gb), .val (.int va), .val (.int vb), .val (.int cnt), .val (.long D0), .second, .val (.long D1), .second, .unset, .unset, .unset, .unset, .unset, .unset, .unset, .unset, .unset, .unset, .unset, .unset, .unset, .unset] [(.long ((gb &&& (65535 : Int32)).toInt64)), (.long D1)])
  refine own_st (fun t_ k_ => XS.ladd X0.here hx rfl (hb hby at_32) rfl k_) ?_
  show own_Go p e below _ s₁ (mkF m 33 #[.val (.int nn), .val (.long dd), .second, .val (.int ga), .val (.int gb), .val (.int va), .val (.int vb), .val (.int cnt), .val (.long D0), .second, .val (.long D1), .second, .unset, .unset, .unset, .unset, .unset, .unset, .unset, .unset, .unset, .unset, .unset, .unset, .unset, .unset] [(.long (D1 + ((gb &&& (65535 : Int32)).toInt64)))])
  refine own_st (fun t_ k_ => XS.lconst X0.here hx rfl (hb hby at_33) k_) ?_
  show own_Go p e below _ s₁ (mkF m 34 #[.val (.int nn), .val (.long dd), .second, .val (.int ga), .val (.int gb), .val (.int va), .val (.int vb), .val (.int cnt), .val (.long D0), .second, .val (.long D1), .second, .unset, .unset, .unset, .unset, .unset, .unset, .unset, .unset, .unset, .unset, .unset, .unset, .unset, .unset] [(.long (1 : Int64)), (.long (D1 + ((gb &&& (65535 : Int32)).toInt64)))])
  refine own_st (fun t_ k_ => XS.ladd X0.here hx rfl (hb hby at_34) rfl k_) ?_
  show own_Go p e below _ s₁ (mkF m 35 #[.val (.int nn), .val (.long dd), .second, .val (.int ga), .val (.int gb), .val (.int va), .val (.int vb), .val (.int cnt), .val (.long D0), .second, .val (.long D1), .second, .unset, .unset, .unset, .unset, .unset, .unset, .unset, .unset, .unset, .unset, .unset, .unset, .unset, .unset] [(.long ((D1 + ((gb &&& (65535 : Int32)).toInt64)) + (1 : Int64)))])
  have d_D2 : D1.toInt < ((D1 + ((gb &&& (65535 : Int32)).toInt64)) + (1 : Int64)).toInt ∧ ((D1 + ((gb &&& (65535 : Int32)).toInt64)) + (1 : Int64)).toInt ≤ D1.toInt + 65536 := own_day1 D1 gb (own_b1 d_D0 d_D1)
  generalize h_D2 : ((D1 + ((gb &&& (65535 : Int32)).toInt64)) + (1 : Int64)) = D2 at d_D2 ⊢
  show own_Go p e below _ s₁ (mkF m 35 #[.val (.int nn), .val (.long dd), .second, .val (.int ga), .val (.int gb), .val (.int va), .val (.int vb), .val (.int cnt), .val (.long D0), .second, .val (.long D1), .second, .unset, .unset, .unset, .unset, .unset, .unset, .unset, .unset, .unset, .unset, .unset, .unset, .unset, .unset] [(.long D2)])
  refine own_st (fun t_ k_ => XS.lstore X0.here hx rfl (hb hby at_35) rfl (l' := #[.val (.int nn), .val (.long dd), .second, .val (.int ga), .val (.int gb), .val (.int va), .val (.int vb), .val (.int cnt), .val (.long D0), .second, .val (.long D1), .second, .val (.long D2), .second, .unset, .unset, .unset, .unset, .unset, .unset, .unset, .unset, .unset, .unset, .unset, .unset]) rfl k_) ?_
  show own_Go p e below _ s₁ (mkF m 37 #[.val (.int nn), .val (.long dd), .second, .val (.int ga), .val (.int gb), .val (.int va), .val (.int vb), .val (.int cnt), .val (.long D0), .second, .val (.long D1), .second, .val (.long D2), .second, .unset, .unset, .unset, .unset, .unset, .unset, .unset, .unset, .unset, .unset, .unset, .unset] [])
  refine own_st (fun t_ k_ => XS.iload X0.here hx rfl (hb hby at_37) rfl k_) ?_
  show own_Go p e below _ s₁ (mkF m 39 #[.val (.int nn), .val (.long dd), .second, .val (.int ga), .val (.int gb), .val (.int va), .val (.int vb), .val (.int cnt), .val (.long D0), .second, .val (.long D1), .second, .val (.long D2), .second, .unset, .unset, .unset, .unset, .unset, .unset, .unset, .unset, .unset, .unset, .unset, .unset] [(.int va)])
  refine own_st (fun t_ k_ => XS.i2dS X0.here hx rfl (hb hby at_39) rfl rfl k_) ?_
  show own_Go p e below _ s₁ (mkF m 40 #[.val (.int nn), .val (.long dd), .second, .val (.int ga), .val (.int gb), .val (.int va), .val (.int vb), .val (.int cnt), .val (.long D0), .second, .val (.long D1), .second, .val (.long D2), .second, .unset, .unset, .unset, .unset, .unset, .unset, .unset, .unset, .unset, .unset, .unset, .unset] [(.double (FP.i2d va))])
  have d_xa : Jvm.Free.Fl.Fin64 (FP.i2d va) := Jvm.Free.Fl.i2d_fin _
  generalize h_xa : (FP.i2d va) = xa at d_xa ⊢
  show own_Go p e below _ s₁ (mkF m 40 #[.val (.int nn), .val (.long dd), .second, .val (.int ga), .val (.int gb), .val (.int va), .val (.int vb), .val (.int cnt), .val (.long D0), .second, .val (.long D1), .second, .val (.long D2), .second, .unset, .unset, .unset, .unset, .unset, .unset, .unset, .unset, .unset, .unset, .unset, .unset] [(.double xa)])
  refine own_st (fun t_ k_ => XS.dstore X0.here hx rfl (hb hby at_40) rfl (l' := #[.val (.int nn), .val (.long dd), .second, .val (.int ga), .val (.int gb), .val (.int va), .val (.int vb), .val (.int cnt), .val (.long D0), .second, .val (.long D1), .second, .val (.long D2), .second, .val (.double xa), .second, .unset, .unset, .unset, .unset, .unset, .unset, .unset, .unset, .unset, .unset]) rfl k_) ?_
  show own_Go p e below _ s₁ (mkF m 42 #[.val (.int nn), .val (.long dd), .second, .val (.int ga), .val (.int gb), .val (.int va), .val (.int vb), .val (.int cnt), .val (.long D0), .second, .val (.long D1), .second, .val (.long D2), .second, .val (.double xa), .second, .unset, .unset, .unset, .unset, .unset, .unset, .unset, .unset, .unset, .unset] [])
  refine own_st (fun t_ k_ => XS.iload X0.here hx rfl (hb hby at_42) rfl k_) ?_
  show own_Go p e below _ s₁ (mkF m 44 #[.val (.int nn), .val (.long dd), .second, .val (.int ga), .val (.int gb), .val (.int va), .val (.int vb), .val (.int cnt), .val (.long D0), .second, .val (.long D1), .second, .val (.long D2), .second, .val (.double xa), .second, .unset, .unset, .unset, .unset, .unset, .unset, .unset, .unset, .unset, .unset] [(.int vb)])
  refine own_st (fun t_ k_ => XS.i2dS X0.here hx rfl (hb hby at_44) rfl rfl k_) ?_
  show own_Go p e below _ s₁ (mkF m 45 #[.val (.int nn), .val (.long dd), .second, .val (.int ga), .val (.int gb), .val (.int va), .val (.int vb), .val (.int cnt), .val (.long D0), .second, .val (.long D1), .second, .val (.long D2), .second, .val (.double xa), .second, .unset, .unset, .unset, .unset, .unset, .unset, .unset, .unset, .unset, .unset] [(.double (FP.i2d vb))])
  have d_xb : Jvm.Free.Fl.Fin64 (FP.i2d vb) := Jvm.Free.Fl.i2d_fin _
  generalize h_xb : (FP.i2d vb) = xb at d_xb ⊢
  show own_Go p e below _ s₁ (mkF m 45 #[.val (.int nn), .val (.long dd), .second, .val (.int ga), .val (.int gb), .val (.int va), .val (.int vb), .val (.int cnt), .val (.long D0), .second, .val (.long D1), .second, .val (.long D2), .second, .val (.double xa), .second, .unset, .unset, .unset, .unset, .unset, .unset, .unset, .unset, .unset, .unset] [(.double xb)])
  refine own_st (fun t_ k_ => XS.dstore X0.here hx rfl (hb hby at_45) rfl (l' := #[.val (.int nn), .val (.long dd), .second, .val (.int ga), .val (.int gb), .val (.int va), .val (.int vb), .val (.int cnt), .val (.long D0), .second, .val (.long D1), .second, .val (.long D2), .second, .val (.double xa), .second, .val (.double xb), .second, .unset, .unset, .unset, .unset, .unset, .unset, .unset, .unset]) rfl k_) ?_
  show own_Go p e below _ s₁ (mkF m 47 #[.val (.int nn), .val (.long dd), .second, .val (.int ga), .val (.int gb), .val (.int va), .val (.int vb), .val (.int cnt), .val (.long D0), .second, .val (.long D1), .second, .val (.long D2), .second, .val (.double xa), .second, .val (.double xb), .second, .unset, .unset, .unset, .unset, .unset, .unset, .unset, .unset] [])
  refine own_st (fun t_ k_ => XS.iload X0.here hx rfl (hb hby at_47) rfl k_) ?_
  show own_Go p e below _ s₁ (mkF m 49 #[.val (.int nn), .val (.long dd), .second, .val (.int ga), .val (.int gb), .val (.int va), .val (.int vb), .val (.int cnt), .val (.long D0), .second, .val (.long D1), .second, .val (.long D2), .second, .val (.double xa), .second, .val (.double xb), .second, .unset, .unset, .unset, .unset, .unset, .unset, .unset, .unset] [(.int va)])
  refine own_st (fun t_ k_ => XS.iload X0.here hx rfl (hb hby at_49) rfl k_) ?_
  show own_Go p e below _ s₁ (mkF m 51 #[.val (.int nn), .val (.long dd), .second, .val (.int ga), .val (.int gb), .val (.int va), .val (.int vb), .val (.int cnt), .val (.long D0), .second, .val (.long D1), .second, .val (.long D2), .second, .val (.double xa), .second, .val (.double xb), .second, .unset, .unset, .unset, .unset, .unset, .unset, .unset, .unset] [(.int vb), (.int va)])
  refine own_st (fun t_ k_ => XS.ixor X0.here hx rfl (hb hby at_51) rfl k_) ?_
  show own_Go p e below _ s₁ (mkF m 52 #[.val (.int nn), .val (.long dd), .second, .val (.int ga), .val (.int gb), .val (.int va), .val (.int vb), .val (.int cnt), .val (.long D0), .second, .val (.long D1), .second, .val (.long D2), .second, .val (.double xa), .second, .val (.double xb), .second, .unset, .unset, .unset, .unset, .unset, .unset, .unset, .unset] [(.int (va ^^^ vb))])
  refine own_st (fun t_ k_ => XS.i2dS X0.here hx rfl (hb hby at_52) rfl rfl k_) ?_
  show own_Go p e below _ s₁ (mkF m 53 #[.val (.int nn), .val (.long dd), .second, .val (.int ga), .val (.int gb), .val (.int va), .val (.int vb), .val (.int cnt), .val (.long D0), .second, .val (.long D1), .second, .val (.long D2), .second, .val (.double xa), .second, .val (.double xb), .second, .unset, .unset, .unset, .unset, .unset, .unset, .unset, .unset] [(.double (FP.i2d (va ^^^ vb)))])
  have d_xc : Jvm.Free.Fl.Fin64 (FP.i2d (va ^^^ vb)) := Jvm.Free.Fl.i2d_fin _
  generalize h_xc : (FP.i2d (va ^^^ vb)) = xc at d_xc ⊢
  show own_Go p e below _ s₁ (mkF m 53 #[.val (.int nn), .val (.long dd), .second, .val (.int ga), .val (.int gb), .val (.int va), .val (.int vb), .val (.int cnt), .val (.long D0), .second, .val (.long D1), .second, .val (.long D2), .second, .val (.double xa), .second, .val (.double xb), .second, .unset, .unset, .unset, .unset, .unset, .unset, .unset, .unset] [(.double xc)])
  refine own_st (fun t_ k_ => XS.dstore X0.here hx rfl (hb hby at_53) rfl (l' := #[.val (.int nn), .val (.long dd), .second, .val (.int ga), .val (.int gb), .val (.int va), .val (.int vb), .val (.int cnt), .val (.long D0), .second, .val (.long D1), .second, .val (.long D2), .second, .val (.double xa), .second, .val (.double xb), .second, .val (.double xc), .second, .unset, .unset, .unset, .unset, .unset, .unset]) rfl k_) ?_
  show own_Go p e below _ s₁ (mkF m 55 #[.val (.int nn), .val (.long dd), .second, .val (.int ga), .val (.int gb), .val (.int va), .val (.int vb), .val (.int cnt), .val (.long D0), .second, .val (.long D1), .second, .val (.long D2), .second, .val (.double xa), .second, .val (.double xb), .second, .val (.double xc), .second, .unset, .unset, .unset, .unset, .unset, .unset] [])
  refine own_st (fun t_ k_ => XS.lload X0.here hx rfl (hb hby at_55) rfl k_) ?_
  show own_Go p e below _ s₁ (mkF m 57 #[.val (.int nn), .val (.long dd), .second, .val (.int ga), .val (.int gb), .val (.int va), .val (.int vb), .val (.int cnt), .val (.long D0), .second, .val (.long D1), .second, .val (.long D2), .second, .val (.double xa), .second, .val (.double xb), .second, .val (.double xc), .second, .unset, .unset, .unset, .unset, .unset, .unset] [(.long D0)])
  refine own_callS X0 hx (y := (⟨"java/time/LocalDate", "ofEpochDay", "(J)Ljava/time/LocalDate;"⟩ : MethodName)) hown (mvT hZ (hw _ (List.mem_of_getElem? (i := 2) rfl))) (mvT hZ (hw _ (List.mem_of_getElem? (i := 3) rfl))) (mvT hZ (hw _ (List.mem_of_getElem? (i := 4) rfl))) (mvT hZ (hw _ (List.mem_of_getElem? (i := 5) rfl))) (by decide) (backOf (W := 0) (rmOE l Z a0 hw [] D0 cf rg iso h0 n0 (Nat.le_trans Z0 (Keep.refl h0 []).1) O0 SEp Ecf Frg Erg Fmn Fmx SIn Eis (own_b0 d_D0)) hZ (hw _ (List.mem_of_getElem? (i := 5) rfl)) (hw _ (List.mem_of_getElem? (i := 4) rfl)) (by decide) (by decide)) (g := (mkF m 57 #[.val (.int nn), .val (.long dd), .second, .val (.int ga), .val (.int gb), .val (.int va), .val (.int vb), .val (.int cnt), .val (.long D0), .second, .val (.long D1), .second, .val (.long D2), .second, .val (.double xa), .second, .val (.double xb), .second, .val (.double xc), .second, .unset, .unset, .unset, .unset, .unset, .unset] [(.long D0)])) rfl (by rw [hml]; rfl) (argsL := [(.long D0)]) (rest := []) (lenOf pd_11 rfl) rfl (by show 2 * 0 + _ ≤ _; exact Nat.le_of_eq rfl) (hb hby at_57) rfl e0 (by decide) (by decide) ?_
  rintro v1 T1 L1 X1 ⟨o1, y1, mo1, kd1, rfl, Nq1, Kq1, go1, g_o1, Eo1, Fy1, Fm1, Fd1, hD1⟩
  have N1 := Fr.app N0 Nq1
  have K1 : Keep h0 T1.heap [] := (Keep.refl h0 []).trans Kq1 all0
  have sz_o1 : h0.size ≤ o1 := Nat.le_trans (Keep.refl h0 []).1 go1
  show own_Go p e below _ T1 (mkF m 60 #[.val (.int nn), .val (.long dd), .second, .val (.int ga), .val (.int gb), .val (.int va), .val (.int vb), .val (.int cnt), .val (.long D0), .second, .val (.long D1), .second, .val (.long D2), .second, .val (.double xa), .second, .val (.double xb), .second, .val (.double xc), .second, .unset, .unset, .unset, .unset, .unset, .unset] [(.ref o1)])
  refine own_st (fun t_ k_ => XS.astore X1.here hx rfl (hb hby at_60) rfl rfl (l' := #[.val (.int nn), .val (.long dd), .second, .val (.int ga), .val (.int gb), .val (.int va), .val (.int vb), .val (.int cnt), .val (.long D0), .second, .val (.long D1), .second, .val (.long D2), .second, .val (.double xa), .second, .val (.double xb), .second, .val (.double xc), .second, .val (.ref o1), .unset, .unset, .unset, .unset, .unset]) rfl k_) ?_
  show own_Go p e below _ T1 (mkF m 62 #[.val (.int nn), .val (.long dd), .second, .val (.int ga), .val (.int gb), .val (.int va), .val (.int vb), .val (.int cnt), .val (.long D0), .second, .val (.long D1), .second, .val (.long D2), .second, .val (.double xa), .second, .val (.double xb), .second, .val (.double xc), .second, .val (.ref o1), .unset, .unset, .unset, .unset, .unset] [])
  refine own_st (fun t_ k_ => XS.lload X1.here hx rfl (hb hby at_62) rfl k_) ?_
  show own_Go p e below _ T1 (mkF m 64 #[.val (.int nn), .val (.long dd), .second, .val (.int ga), .val (.int gb), .val (.int va), .val (.int vb), .val (.int cnt), .val (.long D0), .second, .val (.long D1), .second, .val (.long D2), .second, .val (.double xa), .second, .val (.double xb), .second, .val (.double xc), .second, .val (.ref o1), .unset, .unset, .unset, .unset, .unset] [(.long D1)])
  have f2 := (O0.keep Kq1 all0)
  refine own_callS X1 hx (y := (⟨"java/time/LocalDate", "ofEpochDay", "(J)Ljava/time/LocalDate;"⟩ : MethodName)) hown (mvT hZ (hw _ (List.mem_of_getElem? (i := 2) rfl))) (mvT hZ (hw _ (List.mem_of_getElem? (i := 3) rfl))) (mvT hZ (hw _ (List.mem_of_getElem? (i := 4) rfl))) (mvT hZ (hw _ (List.mem_of_getElem? (i := 5) rfl))) (by decide) (backOf (W := 0) (rmOE l Z a0 hw [] D1 cf rg iso T1.heap n0 (Nat.le_trans Z0 K1.1) f2 SEp Ecf Frg Erg Fmn Fmx SIn Eis (own_b1' d_D0 d_D1)) hZ (hw _ (List.mem_of_getElem? (i := 5) rfl)) (hw _ (List.mem_of_getElem? (i := 4) rfl)) (by decide) (by decide)) (g := (mkF m 64 #[.val (.int nn), .val (.long dd), .second, .val (.int ga), .val (.int gb), .val (.int va), .val (.int vb), .val (.int cnt), .val (.long D0), .second, .val (.long D1), .second, .val (.long D2), .second, .val (.double xa), .second, .val (.double xb), .second, .val (.double xc), .second, .val (.ref o1), .unset, .unset, .unset, .unset, .unset] [(.long D1)])) rfl (by rw [hml]; rfl) (argsL := [(.long D1)]) (rest := []) (lenOf pd_11 rfl) rfl (by show 2 * 0 + _ ≤ _; exact Nat.le_of_eq rfl) (hb hby at_64) rfl rfl (by decide) (by decide) ?_
  rintro v3 T3 L3 X3 ⟨o3, y3, mo3, kd3, rfl, Nq3, Kq3, go3, g_o3, Eo3, Fy3, Fm3, Fd3, hD3⟩
  have N3 := Fr.app N1 Nq3
  have K3 : Keep h0 T3.heap [] := K1.trans Kq3 all0
  have sz_o3 : h0.size ≤ o3 := Nat.le_trans K1.1 go3
  show own_Go p e below _ T3 (mkF m 67 #[.val (.int nn), .val (.long dd), .second, .val (.int ga), .val (.int gb), .val (.int va), .val (.int vb), .val (.int cnt), .val (.long D0), .second, .val (.long D1), .second, .val (.long D2), .second, .val (.double xa), .second, .val (.double xb), .second, .val (.double xc), .second, .val (.ref o1), .unset, .unset, .unset, .unset, .unset] [(.ref o3)])
  refine own_st (fun t_ k_ => XS.astore X3.here hx rfl (hb hby at_67) rfl rfl (l' := #[.val (.int nn), .val (.long dd), .second, .val (.int ga), .val (.int gb), .val (.int va), .val (.int vb), .val (.int cnt), .val (.long D0), .second, .val (.long D1), .second, .val (.long D2), .second, .val (.double xa), .second, .val (.double xb), .second, .val (.double xc), .second, .val (.ref o1), .val (.ref o3), .unset, .unset, .unset, .unset]) rfl k_) ?_
  show own_Go p e below _ T3 (mkF m 69 #[.val (.int nn), .val (.long dd), .second, .val (.int ga), .val (.int gb), .val (.int va), .val (.int vb), .val (.int cnt), .val (.long D0), .second, .val (.long D1), .second, .val (.long D2), .second, .val (.double xa), .second, .val (.double xb), .second, .val (.double xc), .second, .val (.ref o1), .val (.ref o3), .unset, .unset, .unset, .unset] [])
  refine own_st (fun t_ k_ => XS.lload X3.here hx rfl (hb hby at_69) rfl k_) ?_
  show own_Go p e below _ T3 (mkF m 71 #[.val (.int nn), .val (.long dd), .second, .val (.int ga), .val (.int gb), .val (.int va), .val (.int vb), .val (.int cnt), .val (.long D0), .second, .val (.long D1), .second, .val (.long D2), .second, .val (.double xa), .second, .val (.double xb), .second, .val (.double xc), .second, .val (.ref o1), .val (.ref o3), .unset, .unset, .unset, .unset] [(.long D2)])
  have f4 := (f2.keep Kq3 all0)
  refine own_callS X3 hx (y := (⟨"java/time/LocalDate", "ofEpochDay", "(J)Ljava/time/LocalDate;"⟩ : MethodName)) hown (mvT hZ (hw _ (List.mem_of_getElem? (i := 2) rfl))) (mvT hZ (hw _ (List.mem_of_getElem? (i := 3) rfl))) (mvT hZ (hw _ (List.mem_of_getElem? (i := 4) rfl))) (mvT hZ (hw _ (List.mem_of_getElem? (i := 5) rfl))) (by decide) (backOf (W := 0) (rmOE l Z a0 hw [] D2 cf rg iso T3.heap n0 (Nat.le_trans Z0 K3.1) f4 SEp Ecf Frg Erg Fmn Fmx SIn Eis (own_b2 d_D0 d_D1 d_D2)) hZ (hw _ (List.mem_of_getElem? (i := 5) rfl)) (hw _ (List.mem_of_getElem? (i := 4) rfl)) (by decide) (by decide)) (g := (mkF m 71 #[.val (.int nn), .val (.long dd), .second, .val (.int ga), .val (.int gb), .val (.int va), .val (.int vb), .val (.int cnt), .val (.long D0), .second, .val (.long D1), .second, .val (.long D2), .second, .val (.double xa), .second, .val (.double xb), .second, .val (.double xc), .second, .val (.ref o1), .val (.ref o3), .unset, .unset, .unset, .unset] [(.long D2)])) rfl (by rw [hml]; rfl) (argsL := [(.long D2)]) (rest := []) (lenOf pd_11 rfl) rfl (by show 2 * 0 + _ ≤ _; exact Nat.le_of_eq rfl) (hb hby at_71) rfl rfl (by decide) (by decide) ?_
  rintro v5 T5 L5 X5 ⟨o5, y5, mo5, kd5, rfl, Nq5, Kq5, go5, g_o5, Eo5, Fy5, Fm5, Fd5, hD5⟩
  have N5 := Fr.app N3 Nq5
  have K5 : Keep h0 T5.heap [] := K3.trans Kq5 all0
  have sz_o5 : h0.size ≤ o5 := Nat.le_trans K3.1 go5
  show own_Go p e below _ T5 (mkF m 74 #[.val (.int nn), .val (.long dd), .second, .val (.int ga), .val (.int gb), .val (.int va), .val (.int vb), .val (.int cnt), .val (.long D0), .second, .val (.long D1), .second, .val (.long D2), .second, .val (.double xa), .second, .val (.double xb), .second, .val (.double xc), .second, .val (.ref o1), .val (.ref o3), .unset, .unset, .unset, .unset] [(.ref o5)])
  refine own_st (fun t_ k_ => XS.astore X5.here hx rfl (hb hby at_74) rfl rfl (l' := #[.val (.int nn), .val (.long dd), .second, .val (.int ga), .val (.int gb), .val (.int va), .val (.int vb), .val (.int cnt), .val (.long D0), .second, .val (.long D1), .second, .val (.long D2), .second, .val (.double xa), .second, .val (.double xb), .second, .val (.double xc), .second, .val (.ref o1), .val (.ref o3), .val (.ref o5), .unset, .unset, .unset]) rfl k_) ?_
  show own_Go p e below _ T5 (mkF m 76 #[.val (.int nn), .val (.long dd), .second, .val (.int ga), .val (.int gb), .val (.int va), .val (.int vb), .val (.int cnt), .val (.long D0), .second, .val (.long D1), .second, .val (.long D2), .second, .val (.double xa), .second, .val (.double xb), .second, .val (.double xc), .second, .val (.ref o1), .val (.ref o3), .val (.ref o5), .unset, .unset, .unset] [])
  obtain ⟨T6, h6, X6, e6, E6, A6, D6, cel6, st6⟩ := newO X5 hx hZ hown (hw _ (List.mem_of_getElem? (i := 68) rfl)) (hw _ (List.mem_of_getElem? (i := 69) rfl)) (hw _ (List.mem_of_getElem? (i := 70) rfl)) rfl (g := (mkF m 76 #[.val (.int nn), .val (.long dd), .second, .val (.int ga), .val (.int gb), .val (.int va), .val (.int vb), .val (.int cnt), .val (.long D0), .second, .val (.long D1), .second, .val (.long D2), .second, .val (.double xa), .second, .val (.double xb), .second, .val (.double xc), .second, .val (.ref o1), .val (.ref o3), .val (.ref o5), .unset, .unset, .unset] [])) rfl (hb hby at_76) (by decide) (by decide)
  obtain ⟨nb6, g6⟩ : ∃ z, z = T5.heap.size := ⟨_, rfl⟩
  rw [← g6] at A6 D6 cel6 st6
  refine own_st st6 ?_
  have g_nb6 : n0 ≤ nb6 := Nat.le_trans (Nat.le_trans Z0 K5.1) (Nat.le_of_eq g6.symm)
  have K6 : Keep h0 h6 [] := K5.ext E6
  have sz_nb6 : h0.size ≤ nb6 := Nat.le_trans K5.1 (Nat.le_of_eq g6.symm)
  have F6_days : Fld Z h6 nb6 "com/example/hebelwerk/hebelwerk/engine/DatedValues$Builder" "days" "[J" .null := D6 (Or.inl (hw _ (List.mem_of_getElem? (i := 77) rfl))) (ty := (.array .long)) (by decide)
  have F6_values : Fld Z h6 nb6 "com/example/hebelwerk/hebelwerk/engine/DatedValues$Builder" "values" "[D" .null := D6 (Or.inl (hw _ (List.mem_of_getElem? (i := 80) rfl))) (ty := (.array .double)) (by decide)
  have F6_size : Fld Z h6 nb6 "com/example/hebelwerk/hebelwerk/engine/DatedValues$Builder" "size" "I" (.int (0 : Int32)) := D6 (Or.inl (hw _ (List.mem_of_getElem? (i := 90) rfl))) (ty := .int) (by decide)
  show own_Go p e below _ T6 (mkF m 79 #[.val (.int nn), .val (.long dd), .second, .val (.int ga), .val (.int gb), .val (.int va), .val (.int vb), .val (.int cnt), .val (.long D0), .second, .val (.long D1), .second, .val (.long D2), .second, .val (.double xa), .second, .val (.double xb), .second, .val (.double xc), .second, .val (.ref o1), .val (.ref o3), .val (.ref o5), .unset, .unset, .unset] [(.ref nb6)])
  refine own_st (fun t_ k_ => XS.dup X6.here hx rfl (hb hby at_79) rfl rfl k_) ?_
  show own_Go p e below _ T6 (mkF m 80 #[.val (.int nn), .val (.long dd), .second, .val (.int ga), .val (.int gb), .val (.int va), .val (.int vb), .val (.int cnt), .val (.long D0), .second, .val (.long D1), .second, .val (.long D2), .second, .val (.double xa), .second, .val (.double xb), .second, .val (.double xc), .second, .val (.ref o1), .val (.ref o3), .val (.ref o5), .unset, .unset, .unset] [(.ref nb6), (.ref nb6)])
  refine own_callN X6 hx (y := (⟨"com/example/hebelwerk/hebelwerk/engine/DatedValues$Builder", "<init>", "()V"⟩ : MethodName)) rfl hown (mvT hZ (hw _ (List.mem_of_getElem? (i := 71) rfl))) (mvT hZ (hw _ (List.mem_of_getElem? (i := 72) rfl))) (mvT hZ (hw _ (List.mem_of_getElem? (i := 73) rfl))) (by decide) (backOf (W := 1) (rmBI l Z a0 hw [] nb6 h6 n0 (Nat.le_trans Z0 K6.1) g_nb6 A6 F6_days F6_values F6_size) hZ (hw _ (List.mem_of_getElem? (i := 73) rfl)) (hw _ (List.mem_of_getElem? (i := 70) rfl)) (by decide) (by decide)) (a := nb6) (g := (mkF m 80 #[.val (.int nn), .val (.long dd), .second, .val (.int ga), .val (.int gb), .val (.int va), .val (.int vb), .val (.int cnt), .val (.long D0), .second, .val (.long D1), .second, .val (.long D2), .second, .val (.double xa), .second, .val (.double xb), .second, .val (.double xc), .second, .val (.ref o1), .val (.ref o3), .val (.ref o5), .unset, .unset, .unset] [(.ref nb6), (.ref nb6)])) rfl (by rw [hml]; rfl) (argsL := []) (rest := [(.ref nb6)]) (lenOf pd_13 rfl) rfl (by show 2 * 0 + _ ≤ _; exact Nat.le_of_eq rfl) (hb hby at_80) rfl e6 (by decide) (by decide) ?_
  rintro v7 T7 L7 X7 ⟨ta7, tb7, ka7, kb7, rfl, Nq7, Kq7, ga7, g_ta7, gb7, g_tb7, nt7, Eq7, Fd7, Fv7, Fs7, Aa7, Ab7⟩
  have N7 := Fr.app N5 Nq7
  have K7 : Keep h0 T7.heap [] := K6.trans Kq7 (allS (Or.inr sz_nb6) all0)
  show own_Go p e below _ T7 (mkF m 83 #[.val (.int nn), .val (.long dd), .second, .val (.int ga), .val (.int gb), .val (.int va), .val (.int vb), .val (.int cnt), .val (.long D0), .second, .val (.long D1), .second, .val (.long D2), .second, .val (.double xa), .second, .val (.double xb), .second, .val (.double xc), .second, .val (.ref o1), .val (.ref o3), .val (.ref o5), .unset, .unset, .unset] [(.ref nb6)])
  have sz_ta7 : h0.size ≤ ta7 := Nat.le_trans K6.1 ga7
  have sz_tb7 : h0.size ≤ tb7 := Nat.le_trans K6.1 gb7
  refine own_st (fun t_ k_ => XS.astore X7.here hx rfl (hb hby at_83) rfl rfl (l' := #[.val (.int nn), .val (.long dd), .second, .val (.int ga), .val (.int gb), .val (.int va), .val (.int vb), .val (.int cnt), .val (.long D0), .second, .val (.long D1), .second, .val (.long D2), .second, .val (.double xa), .second, .val (.double xb), .second, .val (.double xc), .second, .val (.ref o1), .val (.ref o3), .val (.ref o5), .val (.ref nb6), .unset, .unset]) rfl k_) ?_
  show own_Go p e below _ T7 (mkF m 85 #[.val (.int nn), .val (.long dd), .second, .val (.int ga), .val (.int gb), .val (.int va), .val (.int vb), .val (.int cnt), .val (.long D0), .second, .val (.long D1), .second, .val (.long D2), .second, .val (.double xa), .second, .val (.double xb), .second, .val (.double xc), .second, .val (.ref o1), .val (.ref o3), .val (.ref o5), .val (.ref nb6), .unset, .unset] [])
  rcases (d_cnt : cnt = (0 : Int32) ∨ cnt = (1 : Int32) ∨ cnt = (2 : Int32) ∨ cnt = (3 : Int32)) with rfl | rfl | rfl | rfl
  · show own_Go p e below _ T7 (mkF m 85 #[.val (.int nn), .val (.long dd), .second, .val (.int ga), .val (.int gb), .val (.int va), .val (.int vb), .val (.int (0 : Int32)), .val (.long D0), .second, .val (.long D1), .second, .val (.long D2), .second, .val (.double xa), .second, .val (.double xb), .second, .val (.double xc), .second, .val (.ref o1), .val (.ref o3), .val (.ref o5), .val (.ref nb6), .unset, .unset] [])
    have qD0 : (lcmpW D0 D0) = (0 : Int32) := own_lce.mpr rfl
    have qD1 : (lcmpW D1 D1) = (0 : Int32) := own_lce.mpr rfl
    have qD2 : (lcmpW D2 D2) = (0 : Int32) := own_lce.mpr rfl
    refine own_st (fun t_ k_ => XS.iload X7.here hx rfl (hb hby at_85) rfl k_) ?_
    show own_Go p e below _ T7 (mkF m 87 #[.val (.int nn), .val (.long dd), .second, .val (.int ga), .val (.int gb), .val (.int va), .val (.int vb), .val (.int (0 : Int32)), .val (.long D0), .second, .val (.long D1), .second, .val (.long D2), .second, .val (.double xa), .second, .val (.double xb), .second, .val (.double xc), .second, .val (.ref o1), .val (.ref o3), .val (.ref o5), .val (.ref nb6), .unset, .unset] [(.int (0 : Int32))])
    refine own_st (fun t_ k_ => XS.iconst X7.here hx rfl (hb hby at_87) k_) ?_
    show own_Go p e below _ T7 (mkF m 88 #[.val (.int nn), .val (.long dd), .second, .val (.int ga), .val (.int gb), .val (.int va), .val (.int vb), .val (.int (0 : Int32)), .val (.long D0), .second, .val (.long D1), .second, .val (.long D2), .second, .val (.double xa), .second, .val (.double xb), .second, .val (.double xc), .second, .val (.ref o1), .val (.ref o3), .val (.ref o5), .val (.ref nb6), .unset, .unset] [(.int (1 : Int32)), (.int (0 : Int32))])
    refine own_st (fun t_ k_ => XS.icmpYes X7.here hx rfl (pc0 := 88) (pc' := 100) rfl (hb hby at_88) rfl (by decide) (by decide) (by decide) k_) ?_
    show own_Go p e below _ T7 (mkF m 100 #[.val (.int nn), .val (.long dd), .second, .val (.int ga), .val (.int gb), .val (.int va), .val (.int vb), .val (.int (0 : Int32)), .val (.long D0), .second, .val (.long D1), .second, .val (.long D2), .second, .val (.double xa), .second, .val (.double xb), .second, .val (.double xc), .second, .val (.ref o1), .val (.ref o3), .val (.ref o5), .val (.ref nb6), .unset, .unset] [])
    refine own_st (fun t_ k_ => XS.iload X7.here hx rfl (hb hby at_100) rfl k_) ?_
    show own_Go p e below _ T7 (mkF m 102 #[.val (.int nn), .val (.long dd), .second, .val (.int ga), .val (.int gb), .val (.int va), .val (.int vb), .val (.int (0 : Int32)), .val (.long D0), .second, .val (.long D1), .second, .val (.long D2), .second, .val (.double xa), .second, .val (.double xb), .second, .val (.double xc), .second, .val (.ref o1), .val (.ref o3), .val (.ref o5), .val (.ref nb6), .unset, .unset] [(.int (0 : Int32))])
    refine own_st (fun t_ k_ => XS.iconst X7.here hx rfl (hb hby at_102) k_) ?_
    show own_Go p e below _ T7 (mkF m 103 #[.val (.int nn), .val (.long dd), .second, .val (.int ga), .val (.int gb), .val (.int va), .val (.int vb), .val (.int (0 : Int32)), .val (.long D0), .second, .val (.long D1), .second, .val (.long D2), .second, .val (.double xa), .second, .val (.double xb), .second, .val (.double xc), .second, .val (.ref o1), .val (.ref o3), .val (.ref o5), .val (.ref nb6), .unset, .unset] [(.int (2 : Int32)), (.int (0 : Int32))])
    refine own_st (fun t_ k_ => XS.icmpYes X7.here hx rfl (pc0 := 103) (pc' := 115) rfl (hb hby at_103) rfl (by decide) (by decide) (by decide) k_) ?_
    show own_Go p e below _ T7 (mkF m 115 #[.val (.int nn), .val (.long dd), .second, .val (.int ga), .val (.int gb), .val (.int va), .val (.int vb), .val (.int (0 : Int32)), .val (.long D0), .second, .val (.long D1), .second, .val (.long D2), .second, .val (.double xa), .second, .val (.double xb), .second, .val (.double xc), .second, .val (.ref o1), .val (.ref o3), .val (.ref o5), .val (.ref nb6), .unset, .unset] [])
    refine own_st (fun t_ k_ => XS.iload X7.here hx rfl (hb hby at_115) rfl k_) ?_
    show own_Go p e below _ T7 (mkF m 117 #[.val (.int nn), .val (.long dd), .second, .val (.int ga), .val (.int gb), .val (.int va), .val (.int vb), .val (.int (0 : Int32)), .val (.long D0), .second, .val (.long D1), .second, .val (.long D2), .second, .val (.double xa), .second, .val (.double xb), .second, .val (.double xc), .second, .val (.ref o1), .val (.ref o3), .val (.ref o5), .val (.ref nb6), .unset, .unset] [(.int (0 : Int32))])
    refine own_st (fun t_ k_ => XS.iconst X7.here hx rfl (hb hby at_117) k_) ?_
    show own_Go p e below _ T7 (mkF m 118 #[.val (.int nn), .val (.long dd), .second, .val (.int ga), .val (.int gb), .val (.int va), .val (.int vb), .val (.int (0 : Int32)), .val (.long D0), .second, .val (.long D1), .second, .val (.long D2), .second, .val (.double xa), .second, .val (.double xb), .second, .val (.double xc), .second, .val (.ref o1), .val (.ref o3), .val (.ref o5), .val (.ref nb6), .unset, .unset] [(.int (3 : Int32)), (.int (0 : Int32))])
    refine own_st (fun t_ k_ => XS.icmpYes X7.here hx rfl (pc0 := 118) (pc' := 130) rfl (hb hby at_118) rfl (by decide) (by decide) (by decide) k_) ?_
    show own_Go p e below _ T7 (mkF m 130 #[.val (.int nn), .val (.long dd), .second, .val (.int ga), .val (.int gb), .val (.int va), .val (.int vb), .val (.int (0 : Int32)), .val (.long D0), .second, .val (.long D1), .second, .val (.long D2), .second, .val (.double xa), .second, .val (.double xb), .second, .val (.double xc), .second, .val (.ref o1), .val (.ref o3), .val (.ref o5), .val (.ref nb6), .unset, .unset] [])
    refine own_st (fun t_ k_ => XS.aload X7.here hx rfl (hb hby at_130) rfl rfl k_) ?_
    show own_Go p e below _ T7 (mkF m 132 #[.val (.int nn), .val (.long dd), .second, .val (.int ga), .val (.int gb), .val (.int va), .val (.int vb), .val (.int (0 : Int32)), .val (.long D0), .second, .val (.long D1), .second, .val (.long D2), .second, .val (.double xa), .second, .val (.double xb), .second, .val (.double xc), .second, .val (.ref o1), .val (.ref o3), .val (.ref o5), .val (.ref nb6), .unset, .unset] [(.ref nb6)])
    obtain ⟨cq9, kq9, q9a, q9b, q9c⟩ := isOf hZ rfl Eq7
    refine own_callV X7 hx (y := (⟨"com/example/hebelwerk/hebelwerk/engine/DatedValues$Builder", "build", "()Lcom/example/hebelwerk/hebelwerk/engine/DatedValues;"⟩ : MethodName)) (z := (⟨"com/example/hebelwerk/hebelwerk/engine/DatedValues$Builder", "build", "()Lcom/example/hebelwerk/hebelwerk/engine/DatedValues;"⟩ : MethodName)) hown (mvT hZ (hw _ (List.mem_of_getElem? (i := 81) rfl))) (mvT hZ (hw _ (List.mem_of_getElem? (i := 82) rfl))) (notFace_of_selects (args := #[]) (mvT hZ (hw _ (List.mem_of_getElem? (i := 84) rfl)))) (mvT hZ (hw _ (List.mem_of_getElem? (i := 84) rfl))) (mvT hZ (hw _ (List.mem_of_getElem? (i := 83) rfl))) (by decide) (backOf (W := 0) (rmBD0 l Z a0 hw [] nb6 ta7 tb7 ka7 kb7 (0 : Int64) (0 : Int64) (0 : Int64) (0 : UInt64) (0 : UInt64) (0 : UInt64) T7.heap n0 (Nat.le_trans Z0 K7.1) Eq7 Fd7 Fv7 Fs7 Aa7 Ab7) hZ (hw _ (List.mem_of_getElem? (i := 85) rfl)) (hw _ (List.mem_of_getElem? (i := 70) rfl)) (by decide) (by decide)) q9a q9c (g := (mkF m 132 #[.val (.int nn), .val (.long dd), .second, .val (.int ga), .val (.int gb), .val (.int va), .val (.int vb), .val (.int (0 : Int32)), .val (.long D0), .second, .val (.long D1), .second, .val (.long D2), .second, .val (.double xa), .second, .val (.double xb), .second, .val (.double xc), .second, .val (.ref o1), .val (.ref o3), .val (.ref o5), .val (.ref nb6), .unset, .unset] [(.ref nb6)])) rfl (by rw [hml]; rfl) (argsL := []) (rest := []) (lenOf pd_14 rfl) rfl (by show 2 * 0 + _ ≤ _; exact Nat.le_of_eq rfl) (hb hby at_132) rfl rfl (by decide) (by decide) ?_
    rintro v8 T8 L8 X8 ⟨o8, ta8, tb8, ka8, kb8, rfl, Nq8, Kq8, Eo8, Fd8, Fv8, Aa8, Ab8⟩
    have N8 := Fr.app N7 Nq8
    have K8 : Keep h0 T8.heap [] := K7.trans Kq8 all0
    show own_Go p e below _ T8 (mkF m 135 #[.val (.int nn), .val (.long dd), .second, .val (.int ga), .val (.int gb), .val (.int va), .val (.int vb), .val (.int (0 : Int32)), .val (.long D0), .second, .val (.long D1), .second, .val (.long D2), .second, .val (.double xa), .second, .val (.double xb), .second, .val (.double xc), .second, .val (.ref o1), .val (.ref o3), .val (.ref o5), .val (.ref nb6), .unset, .unset] [(.ref o8)])
    refine own_st (fun t_ k_ => XS.astore X8.here hx rfl (hb hby at_135) rfl rfl (l' := #[.val (.int nn), .val (.long dd), .second, .val (.int ga), .val (.int gb), .val (.int va), .val (.int vb), .val (.int (0 : Int32)), .val (.long D0), .second, .val (.long D1), .second, .val (.long D2), .second, .val (.double xa), .second, .val (.double xb), .second, .val (.double xc), .second, .val (.ref o1), .val (.ref o3), .val (.ref o5), .val (.ref nb6), .val (.ref o8), .unset]) rfl k_) ?_
    show own_Go p e below _ T8 (mkF m 137 #[.val (.int nn), .val (.long dd), .second, .val (.int ga), .val (.int gb), .val (.int va), .val (.int vb), .val (.int (0 : Int32)), .val (.long D0), .second, .val (.long D1), .second, .val (.long D2), .second, .val (.double xa), .second, .val (.double xb), .second, .val (.double xc), .second, .val (.ref o1), .val (.ref o3), .val (.ref o5), .val (.ref nb6), .val (.ref o8), .unset] [])
    refine own_st (fun t_ k_ => XS.aload X8.here hx rfl (hb hby at_137) rfl rfl k_) ?_
    show own_Go p e below _ T8 (mkF m 139 #[.val (.int nn), .val (.long dd), .second, .val (.int ga), .val (.int gb), .val (.int va), .val (.int vb), .val (.int (0 : Int32)), .val (.long D0), .second, .val (.long D1), .second, .val (.long D2), .second, .val (.double xa), .second, .val (.double xb), .second, .val (.double xc), .second, .val (.ref o1), .val (.ref o3), .val (.ref o5), .val (.ref nb6), .val (.ref o8), .unset] [(.ref o8)])
    obtain ⟨cq11, kq11, q11a, q11b, q11c⟩ := isOf hZ rfl Eo8
    refine own_callV X8 hx (y := (⟨"com/example/hebelwerk/hebelwerk/engine/DatedValues", "size", "()I"⟩ : MethodName)) (z := (⟨"com/example/hebelwerk/hebelwerk/engine/DatedValues", "size", "()I"⟩ : MethodName)) hown (mvT hZ (hw _ (List.mem_of_getElem? (i := 114) rfl))) (mvT hZ (hw _ (List.mem_of_getElem? (i := 115) rfl))) (notFace_of_selects (args := #[]) (mvT hZ (hw _ (List.mem_of_getElem? (i := 117) rfl)))) (mvT hZ (hw _ (List.mem_of_getElem? (i := 117) rfl))) (mvT hZ (hw _ (List.mem_of_getElem? (i := 116) rfl))) (by decide) (backOf (W := 0) (rmSI0 l Z a0 hw [] o8 ta8 ka8  T8.heap n0 (Nat.le_trans Z0 K8.1) Fd8 Aa8) hZ (hw _ (List.mem_of_getElem? (i := 118) rfl)) (hw _ (List.mem_of_getElem? (i := 88) rfl)) (by decide) (by decide)) q11a q11c (g := (mkF m 139 #[.val (.int nn), .val (.long dd), .second, .val (.int ga), .val (.int gb), .val (.int va), .val (.int vb), .val (.int (0 : Int32)), .val (.long D0), .second, .val (.long D1), .second, .val (.long D2), .second, .val (.double xa), .second, .val (.double xb), .second, .val (.double xc), .second, .val (.ref o1), .val (.ref o3), .val (.ref o5), .val (.ref nb6), .val (.ref o8), .unset] [(.ref o8)])) rfl (by rw [hml]; rfl) (argsL := []) (rest := []) (lenOf pd_15 rfl) rfl (by show 2 * 0 + _ ≤ _; exact Nat.le_of_eq rfl) (hb hby at_139) rfl rfl (by decide) (by decide) ?_
    rintro v10 T10 L10 X10 ⟨rfl, Nq10, hh10⟩
    have N10 := Fr.app N8 Nq10
    show own_Go p e below _ T10 (mkF m 142 #[.val (.int nn), .val (.long dd), .second, .val (.int ga), .val (.int gb), .val (.int va), .val (.int vb), .val (.int (0 : Int32)), .val (.long D0), .second, .val (.long D1), .second, .val (.long D2), .second, .val (.double xa), .second, .val (.double xb), .second, .val (.double xc), .second, .val (.ref o1), .val (.ref o3), .val (.ref o5), .val (.ref nb6), .val (.ref o8), .unset] [(.int (0 : Int32))])
    refine own_st (fun t_ k_ => XS.iload X10.here hx rfl (hb hby at_142) rfl k_) ?_
    show own_Go p e below _ T10 (mkF m 144 #[.val (.int nn), .val (.long dd), .second, .val (.int ga), .val (.int gb), .val (.int va), .val (.int vb), .val (.int (0 : Int32)), .val (.long D0), .second, .val (.long D1), .second, .val (.long D2), .second, .val (.double xa), .second, .val (.double xb), .second, .val (.double xc), .second, .val (.ref o1), .val (.ref o3), .val (.ref o5), .val (.ref nb6), .val (.ref o8), .unset] [(.int (0 : Int32)), (.int (0 : Int32))])
    refine own_st (fun t_ k_ => XS.icmpNo X10.here hx rfl (hb hby at_144) rfl (by decide) k_) ?_
    show own_Go p e below _ T10 (mkF m 147 #[.val (.int nn), .val (.long dd), .second, .val (.int ga), .val (.int gb), .val (.int va), .val (.int vb), .val (.int (0 : Int32)), .val (.long D0), .second, .val (.long D1), .second, .val (.long D2), .second, .val (.double xa), .second, .val (.double xb), .second, .val (.double xc), .second, .val (.ref o1), .val (.ref o3), .val (.ref o5), .val (.ref nb6), .val (.ref o8), .unset] [])
    refine own_st (fun t_ k_ => XS.aload X10.here hx rfl (hb hby at_147) rfl rfl k_) ?_
    show own_Go p e below _ T10 (mkF m 149 #[.val (.int nn), .val (.long dd), .second, .val (.int ga), .val (.int gb), .val (.int va), .val (.int vb), .val (.int (0 : Int32)), .val (.long D0), .second, .val (.long D1), .second, .val (.long D2), .second, .val (.double xa), .second, .val (.double xb), .second, .val (.double xc), .second, .val (.ref o1), .val (.ref o3), .val (.ref o5), .val (.ref nb6), .val (.ref o8), .unset] [(.ref o8)])
    obtain ⟨cq13, kq13, q13a, q13b, q13c⟩ := isOf hZ hh10 Eo8
    refine own_callV X10 hx (y := (⟨"com/example/hebelwerk/hebelwerk/engine/DatedValues", "isEmpty", "()Z"⟩ : MethodName)) (z := (⟨"com/example/hebelwerk/hebelwerk/engine/DatedValues", "isEmpty", "()Z"⟩ : MethodName)) hown (mvT hZ (hw _ (List.mem_of_getElem? (i := 119) rfl))) (mvT hZ (hw _ (List.mem_of_getElem? (i := 120) rfl))) (notFace_of_selects (args := #[]) (mvT hZ (hw _ (List.mem_of_getElem? (i := 122) rfl)))) (mvT hZ (hw _ (List.mem_of_getElem? (i := 122) rfl))) (mvT hZ (hw _ (List.mem_of_getElem? (i := 121) rfl))) (by decide) (backOf (W := 0) (rmIS0 l Z a0 hw [] o8 ta8 ka8  T8.heap n0 (Nat.le_trans Z0 K8.1) Fd8 Aa8) hZ (hw _ (List.mem_of_getElem? (i := 123) rfl)) (hw _ (List.mem_of_getElem? (i := 88) rfl)) (by decide) (by decide)) q13a q13c (g := (mkF m 149 #[.val (.int nn), .val (.long dd), .second, .val (.int ga), .val (.int gb), .val (.int va), .val (.int vb), .val (.int (0 : Int32)), .val (.long D0), .second, .val (.long D1), .second, .val (.long D2), .second, .val (.double xa), .second, .val (.double xb), .second, .val (.double xc), .second, .val (.ref o1), .val (.ref o3), .val (.ref o5), .val (.ref nb6), .val (.ref o8), .unset] [(.ref o8)])) rfl (by rw [hml]; rfl) (argsL := []) (rest := []) (lenOf pd_6 rfl) rfl (by show 2 * 0 + _ ≤ _; exact Nat.le_of_eq rfl) (hb hby at_149) rfl hh10 (by decide) (by decide) ?_
    rintro v12 T12 L12 X12 ⟨rfl, Nq12, hh12⟩
    have N12 := Fr.app N10 Nq12
    show own_Go p e below _ T12 (mkF m 152 #[.val (.int nn), .val (.long dd), .second, .val (.int ga), .val (.int gb), .val (.int va), .val (.int vb), .val (.int (0 : Int32)), .val (.long D0), .second, .val (.long D1), .second, .val (.long D2), .second, .val (.double xa), .second, .val (.double xb), .second, .val (.double xc), .second, .val (.ref o1), .val (.ref o3), .val (.ref o5), .val (.ref nb6), .val (.ref o8), .unset] [(.int (1 : Int32))])
    refine own_st (fun t_ k_ => XS.iload X12.here hx rfl (hb hby at_152) rfl k_) ?_
    show own_Go p e below _ T12 (mkF m 154 #[.val (.int nn), .val (.long dd), .second, .val (.int ga), .val (.int gb), .val (.int va), .val (.int vb), .val (.int (0 : Int32)), .val (.long D0), .second, .val (.long D1), .second, .val (.long D2), .second, .val (.double xa), .second, .val (.double xb), .second, .val (.double xc), .second, .val (.ref o1), .val (.ref o3), .val (.ref o5), .val (.ref nb6), .val (.ref o8), .unset] [(.int (0 : Int32)), (.int (1 : Int32))])
    refine own_st (fun t_ k_ => XS.ifNo X12.here hx rfl (hb hby at_154) rfl (by decide) k_) ?_
    show own_Go p e below _ T12 (mkF m 157 #[.val (.int nn), .val (.long dd), .second, .val (.int ga), .val (.int gb), .val (.int va), .val (.int vb), .val (.int (0 : Int32)), .val (.long D0), .second, .val (.long D1), .second, .val (.long D2), .second, .val (.double xa), .second, .val (.double xb), .second, .val (.double xc), .second, .val (.ref o1), .val (.ref o3), .val (.ref o5), .val (.ref nb6), .val (.ref o8), .unset] [(.int (1 : Int32))])
    refine own_st (fun t_ k_ => XS.iconst X12.here hx rfl (hb hby at_157) k_) ?_
    show own_Go p e below _ T12 (mkF m 158 #[.val (.int nn), .val (.long dd), .second, .val (.int ga), .val (.int gb), .val (.int va), .val (.int vb), .val (.int (0 : Int32)), .val (.long D0), .second, .val (.long D1), .second, .val (.long D2), .second, .val (.double xa), .second, .val (.double xb), .second, .val (.double xc), .second, .val (.ref o1), .val (.ref o3), .val (.ref o5), .val (.ref nb6), .val (.ref o8), .unset] [(.int (1 : Int32)), (.int (1 : Int32))])
    refine own_st (fun t_ k_ => XS.goto X12.here hx rfl (pc0 := 158) (pc' := 162) rfl (hb hby at_158) (by decide) (by decide) k_) ?_
    show own_Go p e below _ T12 (mkF m 162 #[.val (.int nn), .val (.long dd), .second, .val (.int ga), .val (.int gb), .val (.int va), .val (.int vb), .val (.int (0 : Int32)), .val (.long D0), .second, .val (.long D1), .second, .val (.long D2), .second, .val (.double xa), .second, .val (.double xb), .second, .val (.double xc), .second, .val (.ref o1), .val (.ref o3), .val (.ref o5), .val (.ref nb6), .val (.ref o8), .unset] [(.int (1 : Int32)), (.int (1 : Int32))])
    refine own_st (fun t_ k_ => XS.icmpNo X12.here hx rfl (hb hby at_162) rfl (by decide) k_) ?_
    show own_Go p e below _ T12 (mkF m 165 #[.val (.int nn), .val (.long dd), .second, .val (.int ga), .val (.int gb), .val (.int va), .val (.int vb), .val (.int (0 : Int32)), .val (.long D0), .second, .val (.long D1), .second, .val (.long D2), .second, .val (.double xa), .second, .val (.double xb), .second, .val (.double xc), .second, .val (.ref o1), .val (.ref o3), .val (.ref o5), .val (.ref nb6), .val (.ref o8), .unset] [])
    refine own_st (fun t_ k_ => XS.iconst X12.here hx rfl (hb hby at_165) k_) ?_
    show own_Go p e below _ T12 (mkF m 166 #[.val (.int nn), .val (.long dd), .second, .val (.int ga), .val (.int gb), .val (.int va), .val (.int vb), .val (.int (0 : Int32)), .val (.long D0), .second, .val (.long D1), .second, .val (.long D2), .second, .val (.double xa), .second, .val (.double xb), .second, .val (.double xc), .second, .val (.ref o1), .val (.ref o3), .val (.ref o5), .val (.ref nb6), .val (.ref o8), .unset] [(.int (1 : Int32))])
    refine own_st (fun t_ k_ => XS.goto X12.here hx rfl (pc0 := 166) (pc' := 170) rfl (hb hby at_166) (by decide) (by decide) k_) ?_
    show own_Go p e below _ T12 (mkF m 170 #[.val (.int nn), .val (.long dd), .second, .val (.int ga), .val (.int gb), .val (.int va), .val (.int vb), .val (.int (0 : Int32)), .val (.long D0), .second, .val (.long D1), .second, .val (.long D2), .second, .val (.double xa), .second, .val (.double xb), .second, .val (.double xc), .second, .val (.ref o1), .val (.ref o3), .val (.ref o5), .val (.ref nb6), .val (.ref o8), .unset] [(.int (1 : Int32))])
    refine own_st (fun t_ k_ => XS.istore X12.here hx rfl (hb hby at_170) rfl (l' := #[.val (.int nn), .val (.long dd), .second, .val (.int ga), .val (.int gb), .val (.int va), .val (.int vb), .val (.int (0 : Int32)), .val (.long D0), .second, .val (.long D1), .second, .val (.long D2), .second, .val (.double xa), .second, .val (.double xb), .second, .val (.double xc), .second, .val (.ref o1), .val (.ref o3), .val (.ref o5), .val (.ref nb6), .val (.ref o8), .val (.int (1 : Int32))]) rfl k_) ?_
    show own_Go p e below _ T12 (mkF m 172 #[.val (.int nn), .val (.long dd), .second, .val (.int ga), .val (.int gb), .val (.int va), .val (.int vb), .val (.int (0 : Int32)), .val (.long D0), .second, .val (.long D1), .second, .val (.long D2), .second, .val (.double xa), .second, .val (.double xb), .second, .val (.double xc), .second, .val (.ref o1), .val (.ref o3), .val (.ref o5), .val (.ref nb6), .val (.ref o8), .val (.int (1 : Int32))] [])
    refine own_st (fun t_ k_ => XS.iload X12.here hx rfl (hb hby at_172) rfl k_) ?_
    show own_Go p e below _ T12 (mkF m 174 #[.val (.int nn), .val (.long dd), .second, .val (.int ga), .val (.int gb), .val (.int va), .val (.int vb), .val (.int (0 : Int32)), .val (.long D0), .second, .val (.long D1), .second, .val (.long D2), .second, .val (.double xa), .second, .val (.double xb), .second, .val (.double xc), .second, .val (.ref o1), .val (.ref o3), .val (.ref o5), .val (.ref nb6), .val (.ref o8), .val (.int (1 : Int32))] [(.int (1 : Int32))])
    refine own_st (fun t_ k_ => XS.ifNo X12.here hx rfl (hb hby at_174) rfl (by decide) k_) ?_
    show own_Go p e below _ T12 (mkF m 177 #[.val (.int nn), .val (.long dd), .second, .val (.int ga), .val (.int gb), .val (.int va), .val (.int vb), .val (.int (0 : Int32)), .val (.long D0), .second, .val (.long D1), .second, .val (.long D2), .second, .val (.double xa), .second, .val (.double xb), .second, .val (.double xc), .second, .val (.ref o1), .val (.ref o3), .val (.ref o5), .val (.ref nb6), .val (.ref o8), .val (.int (1 : Int32))] [])
    refine own_st (fun t_ k_ => XS.iload X12.here hx rfl (hb hby at_177) rfl k_) ?_
    show own_Go p e below _ T12 (mkF m 179 #[.val (.int nn), .val (.long dd), .second, .val (.int ga), .val (.int gb), .val (.int va), .val (.int vb), .val (.int (0 : Int32)), .val (.long D0), .second, .val (.long D1), .second, .val (.long D2), .second, .val (.double xa), .second, .val (.double xb), .second, .val (.double xc), .second, .val (.ref o1), .val (.ref o3), .val (.ref o5), .val (.ref nb6), .val (.ref o8), .val (.int (1 : Int32))] [(.int (0 : Int32))])
    refine own_st (fun t_ k_ => XS.iconst X12.here hx rfl (hb hby at_179) k_) ?_
    show own_Go p e below _ T12 (mkF m 180 #[.val (.int nn), .val (.long dd), .second, .val (.int ga), .val (.int gb), .val (.int va), .val (.int vb), .val (.int (0 : Int32)), .val (.long D0), .second, .val (.long D1), .second, .val (.long D2), .second, .val (.double xa), .second, .val (.double xb), .second, .val (.double xc), .second, .val (.ref o1), .val (.ref o3), .val (.ref o5), .val (.ref nb6), .val (.ref o8), .val (.int (1 : Int32))] [(.int (1 : Int32)), (.int (0 : Int32))])
    refine own_st (fun t_ k_ => XS.icmpYes X12.here hx rfl (pc0 := 180) (pc' := 217) rfl (hb hby at_180) rfl (by decide) (by decide) (by decide) k_) ?_
    show own_Go p e below _ T12 (mkF m 217 #[.val (.int nn), .val (.long dd), .second, .val (.int ga), .val (.int gb), .val (.int va), .val (.int vb), .val (.int (0 : Int32)), .val (.long D0), .second, .val (.long D1), .second, .val (.long D2), .second, .val (.double xa), .second, .val (.double xb), .second, .val (.double xc), .second, .val (.ref o1), .val (.ref o3), .val (.ref o5), .val (.ref nb6), .val (.ref o8), .val (.int (1 : Int32))] [])
    refine own_st (fun t_ k_ => XS.iload X12.here hx rfl (hb hby at_217) rfl k_) ?_
    show own_Go p e below _ T12 (mkF m 219 #[.val (.int nn), .val (.long dd), .second, .val (.int ga), .val (.int gb), .val (.int va), .val (.int vb), .val (.int (0 : Int32)), .val (.long D0), .second, .val (.long D1), .second, .val (.long D2), .second, .val (.double xa), .second, .val (.double xb), .second, .val (.double xc), .second, .val (.ref o1), .val (.ref o3), .val (.ref o5), .val (.ref nb6), .val (.ref o8), .val (.int (1 : Int32))] [(.int (1 : Int32))])
    refine own_st (fun t_ k_ => XS.ifNo X12.here hx rfl (hb hby at_219) rfl (by decide) k_) ?_
    show own_Go p e below _ T12 (mkF m 222 #[.val (.int nn), .val (.long dd), .second, .val (.int ga), .val (.int gb), .val (.int va), .val (.int vb), .val (.int (0 : Int32)), .val (.long D0), .second, .val (.long D1), .second, .val (.long D2), .second, .val (.double xa), .second, .val (.double xb), .second, .val (.double xc), .second, .val (.ref o1), .val (.ref o3), .val (.ref o5), .val (.ref nb6), .val (.ref o8), .val (.int (1 : Int32))] [])
    refine own_st (fun t_ k_ => XS.iload X12.here hx rfl (hb hby at_222) rfl k_) ?_
    show own_Go p e below _ T12 (mkF m 224 #[.val (.int nn), .val (.long dd), .second, .val (.int ga), .val (.int gb), .val (.int va), .val (.int vb), .val (.int (0 : Int32)), .val (.long D0), .second, .val (.long D1), .second, .val (.long D2), .second, .val (.double xa), .second, .val (.double xb), .second, .val (.double xc), .second, .val (.ref o1), .val (.ref o3), .val (.ref o5), .val (.ref nb6), .val (.ref o8), .val (.int (1 : Int32))] [(.int (0 : Int32))])
    refine own_st (fun t_ k_ => XS.iconst X12.here hx rfl (hb hby at_224) k_) ?_
    show own_Go p e below _ T12 (mkF m 225 #[.val (.int nn), .val (.long dd), .second, .val (.int ga), .val (.int gb), .val (.int va), .val (.int vb), .val (.int (0 : Int32)), .val (.long D0), .second, .val (.long D1), .second, .val (.long D2), .second, .val (.double xa), .second, .val (.double xb), .second, .val (.double xc), .second, .val (.ref o1), .val (.ref o3), .val (.ref o5), .val (.ref nb6), .val (.ref o8), .val (.int (1 : Int32))] [(.int (2 : Int32)), (.int (0 : Int32))])
    refine own_st (fun t_ k_ => XS.icmpYes X12.here hx rfl (pc0 := 225) (pc' := 262) rfl (hb hby at_225) rfl (by decide) (by decide) (by decide) k_) ?_
    show own_Go p e below _ T12 (mkF m 262 #[.val (.int nn), .val (.long dd), .second, .val (.int ga), .val (.int gb), .val (.int va), .val (.int vb), .val (.int (0 : Int32)), .val (.long D0), .second, .val (.long D1), .second, .val (.long D2), .second, .val (.double xa), .second, .val (.double xb), .second, .val (.double xc), .second, .val (.ref o1), .val (.ref o3), .val (.ref o5), .val (.ref nb6), .val (.ref o8), .val (.int (1 : Int32))] [])
    refine own_st (fun t_ k_ => XS.iload X12.here hx rfl (hb hby at_262) rfl k_) ?_
    show own_Go p e below _ T12 (mkF m 264 #[.val (.int nn), .val (.long dd), .second, .val (.int ga), .val (.int gb), .val (.int va), .val (.int vb), .val (.int (0 : Int32)), .val (.long D0), .second, .val (.long D1), .second, .val (.long D2), .second, .val (.double xa), .second, .val (.double xb), .second, .val (.double xc), .second, .val (.ref o1), .val (.ref o3), .val (.ref o5), .val (.ref nb6), .val (.ref o8), .val (.int (1 : Int32))] [(.int (1 : Int32))])
    refine own_st (fun t_ k_ => XS.ifNo X12.here hx rfl (hb hby at_264) rfl (by decide) k_) ?_
    show own_Go p e below _ T12 (mkF m 267 #[.val (.int nn), .val (.long dd), .second, .val (.int ga), .val (.int gb), .val (.int va), .val (.int vb), .val (.int (0 : Int32)), .val (.long D0), .second, .val (.long D1), .second, .val (.long D2), .second, .val (.double xa), .second, .val (.double xb), .second, .val (.double xc), .second, .val (.ref o1), .val (.ref o3), .val (.ref o5), .val (.ref nb6), .val (.ref o8), .val (.int (1 : Int32))] [])
    refine own_st (fun t_ k_ => XS.iload X12.here hx rfl (hb hby at_267) rfl k_) ?_
    show own_Go p e below _ T12 (mkF m 269 #[.val (.int nn), .val (.long dd), .second, .val (.int ga), .val (.int gb), .val (.int va), .val (.int vb), .val (.int (0 : Int32)), .val (.long D0), .second, .val (.long D1), .second, .val (.long D2), .second, .val (.double xa), .second, .val (.double xb), .second, .val (.double xc), .second, .val (.ref o1), .val (.ref o3), .val (.ref o5), .val (.ref nb6), .val (.ref o8), .val (.int (1 : Int32))] [(.int (0 : Int32))])
    refine own_st (fun t_ k_ => XS.iconst X12.here hx rfl (hb hby at_269) k_) ?_
    show own_Go p e below _ T12 (mkF m 270 #[.val (.int nn), .val (.long dd), .second, .val (.int ga), .val (.int gb), .val (.int va), .val (.int vb), .val (.int (0 : Int32)), .val (.long D0), .second, .val (.long D1), .second, .val (.long D2), .second, .val (.double xa), .second, .val (.double xb), .second, .val (.double xc), .second, .val (.ref o1), .val (.ref o3), .val (.ref o5), .val (.ref nb6), .val (.ref o8), .val (.int (1 : Int32))] [(.int (3 : Int32)), (.int (0 : Int32))])
    refine own_st (fun t_ k_ => XS.icmpYes X12.here hx rfl (pc0 := 270) (pc' := 307) rfl (hb hby at_270) rfl (by decide) (by decide) (by decide) k_) ?_
    show own_Go p e below _ T12 (mkF m 307 #[.val (.int nn), .val (.long dd), .second, .val (.int ga), .val (.int gb), .val (.int va), .val (.int vb), .val (.int (0 : Int32)), .val (.long D0), .second, .val (.long D1), .second, .val (.long D2), .second, .val (.double xa), .second, .val (.double xb), .second, .val (.double xc), .second, .val (.ref o1), .val (.ref o3), .val (.ref o5), .val (.ref nb6), .val (.ref o8), .val (.int (1 : Int32))] [])
    refine own_st (fun t_ k_ => XS.iload X12.here hx rfl (hb hby at_307) rfl k_) ?_
    show own_Go p e below _ T12 (mkF m 309 #[.val (.int nn), .val (.long dd), .second, .val (.int ga), .val (.int gb), .val (.int va), .val (.int vb), .val (.int (0 : Int32)), .val (.long D0), .second, .val (.long D1), .second, .val (.long D2), .second, .val (.double xa), .second, .val (.double xb), .second, .val (.double xc), .second, .val (.ref o1), .val (.ref o3), .val (.ref o5), .val (.ref nb6), .val (.ref o8), .val (.int (1 : Int32))] [(.int (1 : Int32))])
    refine own_retN X12 hx hlk (t := .boolean) Bd.returns (by simp) (hb hby at_309) ?_ (by decide) (by decide)
    show Q0 n0 _ T12.heap _
    rw [hh12]
    exact ⟨rfl, N12⟩
  · show own_Go p e below _ T7 (mkF m 85 #[.val (.int nn), .val (.long dd), .second, .val (.int ga), .val (.int gb), .val (.int va), .val (.int vb), .val (.int (1 : Int32)), .val (.long D0), .second, .val (.long D1), .second, .val (.long D2), .second, .val (.double xa), .second, .val (.double xb), .second, .val (.double xc), .second, .val (.ref o1), .val (.ref o3), .val (.ref o5), .val (.ref nb6), .unset, .unset] [])
    have qD0 : (lcmpW D0 D0) = (0 : Int32) := own_lce.mpr rfl
    have qD1 : (lcmpW D1 D1) = (0 : Int32) := own_lce.mpr rfl
    have qD2 : (lcmpW D2 D2) = (0 : Int32) := own_lce.mpr rfl
    refine own_st (fun t_ k_ => XS.iload X7.here hx rfl (hb hby at_85) rfl k_) ?_
    show own_Go p e below _ T7 (mkF m 87 #[.val (.int nn), .val (.long dd), .second, .val (.int ga), .val (.int gb), .val (.int va), .val (.int vb), .val (.int (1 : Int32)), .val (.long D0), .second, .val (.long D1), .second, .val (.long D2), .second, .val (.double xa), .second, .val (.double xb), .second, .val (.double xc), .second, .val (.ref o1), .val (.ref o3), .val (.ref o5), .val (.ref nb6), .unset, .unset] [(.int (1 : Int32))])
    refine own_st (fun t_ k_ => XS.iconst X7.here hx rfl (hb hby at_87) k_) ?_
    show own_Go p e below _ T7 (mkF m 88 #[.val (.int nn), .val (.long dd), .second, .val (.int ga), .val (.int gb), .val (.int va), .val (.int vb), .val (.int (1 : Int32)), .val (.long D0), .second, .val (.long D1), .second, .val (.long D2), .second, .val (.double xa), .second, .val (.double xb), .second, .val (.double xc), .second, .val (.ref o1), .val (.ref o3), .val (.ref o5), .val (.ref nb6), .unset, .unset] [(.int (1 : Int32)), (.int (1 : Int32))])
    refine own_st (fun t_ k_ => XS.icmpNo X7.here hx rfl (hb hby at_88) rfl (by decide) k_) ?_
    show own_Go p e below _ T7 (mkF m 91 #[.val (.int nn), .val (.long dd), .second, .val (.int ga), .val (.int gb), .val (.int va), .val (.int vb), .val (.int (1 : Int32)), .val (.long D0), .second, .val (.long D1), .second, .val (.long D2), .second, .val (.double xa), .second, .val (.double xb), .second, .val (.double xc), .second, .val (.ref o1), .val (.ref o3), .val (.ref o5), .val (.ref nb6), .unset, .unset] [])
    refine own_st (fun t_ k_ => XS.aload X7.here hx rfl (hb hby at_91) rfl rfl k_) ?_
    show own_Go p e below _ T7 (mkF m 93 #[.val (.int nn), .val (.long dd), .second, .val (.int ga), .val (.int gb), .val (.int va), .val (.int vb), .val (.int (1 : Int32)), .val (.long D0), .second, .val (.long D1), .second, .val (.long D2), .second, .val (.double xa), .second, .val (.double xb), .second, .val (.double xc), .second, .val (.ref o1), .val (.ref o3), .val (.ref o5), .val (.ref nb6), .unset, .unset] [(.ref nb6)])
    refine own_st (fun t_ k_ => XS.aload X7.here hx rfl (hb hby at_93) rfl rfl k_) ?_
    show own_Go p e below _ T7 (mkF m 95 #[.val (.int nn), .val (.long dd), .second, .val (.int ga), .val (.int gb), .val (.int va), .val (.int vb), .val (.int (1 : Int32)), .val (.long D0), .second, .val (.long D1), .second, .val (.long D2), .second, .val (.double xa), .second, .val (.double xb), .second, .val (.double xc), .second, .val (.ref o1), .val (.ref o3), .val (.ref o5), .val (.ref nb6), .unset, .unset] [(.ref o1), (.ref nb6)])
    refine own_st (fun t_ k_ => XS.dload X7.here hx rfl (hb hby at_95) rfl k_) ?_
    show own_Go p e below _ T7 (mkF m 97 #[.val (.int nn), .val (.long dd), .second, .val (.int ga), .val (.int gb), .val (.int va), .val (.int vb), .val (.int (1 : Int32)), .val (.long D0), .second, .val (.long D1), .second, .val (.long D2), .second, .val (.double xa), .second, .val (.double xb), .second, .val (.double xc), .second, .val (.ref o1), .val (.ref o3), .val (.ref o5), .val (.ref nb6), .unset, .unset] [(.double xa), (.ref o1), (.ref nb6)])
    have f14 := (Fy1.keep Kq3 nin0)
    have f15 := (f14.keep Kq5 nin0)
    have f16 := (Fld.ext E6 f15)
    have f18 := (Eo1.keep Kq3)
    have f19 := (f18.keep Kq5)
    have ne17 : o1 ≠ nb6 := (Nat.ne_of_lt (Nat.lt_of_lt_of_le f19.lt (Nat.le_of_eq g6.symm)))
    have f20 := (f16.keep Kq7 (ninS ne17 nin0))
    have f21 := (Fm1.keep Kq3 nin0)
    have f22 := (f21.keep Kq5 nin0)
    have f23 := (Fld.ext E6 f22)
    have f24 := (f23.keep Kq7 (ninS ne17 nin0))
    have f25 := (Fd1.keep Kq3 nin0)
    have f26 := (f25.keep Kq5 nin0)
    have f27 := (Fld.ext E6 f26)
    have f28 := (f27.keep Kq7 (ninS ne17 nin0))
    have f29 := (f4.keep Kq5 all0)
    have f30 := (f29.ext E6)
    have f31 := (f30.keep Kq7 (allS g_nb6 all0))
    have f32 := (Exa.ext E6 f19)
    have f33 := (f32.keep Kq7)
    obtain ⟨cq35, kq35, q35a, q35b, q35c⟩ := isOf hZ rfl Eq7
    refine own_callV X7 hx (y := (⟨"com/example/hebelwerk/hebelwerk/engine/DatedValues$Builder", "add", "(Ljava/time/LocalDate;D)V"⟩ : MethodName)) (z := (⟨"com/example/hebelwerk/hebelwerk/engine/DatedValues$Builder", "add", "(Ljava/time/LocalDate;D)V"⟩ : MethodName)) hown (mvT hZ (hw _ (List.mem_of_getElem? (i := 124) rfl))) (mvT hZ (hw _ (List.mem_of_getElem? (i := 125) rfl))) (notFace_of_selects (args := #[]) (mvT hZ (hw _ (List.mem_of_getElem? (i := 127) rfl)))) (mvT hZ (hw _ (List.mem_of_getElem? (i := 127) rfl))) (mvT hZ (hw _ (List.mem_of_getElem? (i := 126) rfl))) (by decide) (backOf (W := 0) (rmAD0 l Z a0 hw [] nb6 ta7 tb7 ka7 kb7 o1 y1 mo1 kd1 D0 xa (0 : Int64) (0 : Int64) (0 : Int64) (0 : UInt64) (0 : UInt64) (0 : UInt64) cf rg iso T7.heap n0 (Nat.le_trans Z0 K7.1) f31 SEp Ecf Frg Erg Fmn Fmx SIn Eis g_nb6 g_ta7 g_tb7 Eq7 Fd7 Fv7 Fs7 Aa7 Ab7 f33 f20 f24 f28 hD1 (own_b0 d_D0) d_xa) hZ (hw _ (List.mem_of_getElem? (i := 128) rfl)) (hw _ (List.mem_of_getElem? (i := 70) rfl)) (by decide) (by decide)) q35a q35c (g := (mkF m 97 #[.val (.int nn), .val (.long dd), .second, .val (.int ga), .val (.int gb), .val (.int va), .val (.int vb), .val (.int (1 : Int32)), .val (.long D0), .second, .val (.long D1), .second, .val (.long D2), .second, .val (.double xa), .second, .val (.double xb), .second, .val (.double xc), .second, .val (.ref o1), .val (.ref o3), .val (.ref o5), .val (.ref nb6), .unset, .unset] [(.double xa), (.ref o1), (.ref nb6)])) rfl (by rw [hml]; rfl) (argsL := [(.ref o1), (.double xa)]) (rest := []) (lenOf pd_16 rfl) rfl (by show 2 * 0 + _ ≤ _; exact Nat.le_of_eq rfl) (hb hby at_97) rfl rfl (by decide) (by decide) ?_
    rintro v34 T34 L34 X34 ⟨rfl, Nq34, Kq34, Eq34, Fd34, Fv34, Fs34, Aa34, Ab34⟩
    have N34 := Fr.app N7 Nq34
    have K34 : Keep h0 T34.heap [] := K7.trans Kq34 (allS (Or.inr sz_nb6) (allS (Or.inr sz_ta7) (allS (Or.inr sz_tb7) all0)))
    show own_Go p e below _ T34 (mkF m 100 #[.val (.int nn), .val (.long dd), .second, .val (.int ga), .val (.int gb), .val (.int va), .val (.int vb), .val (.int (1 : Int32)), .val (.long D0), .second, .val (.long D1), .second, .val (.long D2), .second, .val (.double xa), .second, .val (.double xb), .second, .val (.double xc), .second, .val (.ref o1), .val (.ref o3), .val (.ref o5), .val (.ref nb6), .unset, .unset] [])
    refine own_st (fun t_ k_ => XS.iload X34.here hx rfl (hb hby at_100) rfl k_) ?_
    show own_Go p e below _ T34 (mkF m 102 #[.val (.int nn), .val (.long dd), .second, .val (.int ga), .val (.int gb), .val (.int va), .val (.int vb), .val (.int (1 : Int32)), .val (.long D0), .second, .val (.long D1), .second, .val (.long D2), .second, .val (.double xa), .second, .val (.double xb), .second, .val (.double xc), .second, .val (.ref o1), .val (.ref o3), .val (.ref o5), .val (.ref nb6), .unset, .unset] [(.int (1 : Int32))])
    refine own_st (fun t_ k_ => XS.iconst X34.here hx rfl (hb hby at_102) k_) ?_
    show own_Go p e below _ T34 (mkF m 103 #[.val (.int nn), .val (.long dd), .second, .val (.int ga), .val (.int gb), .val (.int va), .val (.int vb), .val (.int (1 : Int32)), .val (.long D0), .second, .val (.long D1), .second, .val (.long D2), .second, .val (.double xa), .second, .val (.double xb), .second, .val (.double xc), .second, .val (.ref o1), .val (.ref o3), .val (.ref o5), .val (.ref nb6), .unset, .unset] [(.int (2 : Int32)), (.int (1 : Int32))])
    refine own_st (fun t_ k_ => XS.icmpYes X34.here hx rfl (pc0 := 103) (pc' := 115) rfl (hb hby at_103) rfl (by decide) (by decide) (by decide) k_) ?_
    show own_Go p e below _ T34 (mkF m 115 #[.val (.int nn), .val (.long dd), .second, .val (.int ga), .val (.int gb), .val (.int va), .val (.int vb), .val (.int (1 : Int32)), .val (.long D0), .second, .val (.long D1), .second, .val (.long D2), .second, .val (.double xa), .second, .val (.double xb), .second, .val (.double xc), .second, .val (.ref o1), .val (.ref o3), .val (.ref o5), .val (.ref nb6), .unset, .unset] [])
    refine own_st (fun t_ k_ => XS.iload X34.here hx rfl (hb hby at_115) rfl k_) ?_
    show own_Go p e below _ T34 (mkF m 117 #[.val (.int nn), .val (.long dd), .second, .val (.int ga), .val (.int gb), .val (.int va), .val (.int vb), .val (.int (1 : Int32)), .val (.long D0), .second, .val (.long D1), .second, .val (.long D2), .second, .val (.double xa), .second, .val (.double xb), .second, .val (.double xc), .second, .val (.ref o1), .val (.ref o3), .val (.ref o5), .val (.ref nb6), .unset, .unset] [(.int (1 : Int32))])
    refine own_st (fun t_ k_ => XS.iconst X34.here hx rfl (hb hby at_117) k_) ?_
    show own_Go p e below _ T34 (mkF m 118 #[.val (.int nn), .val (.long dd), .second, .val (.int ga), .val (.int gb), .val (.int va), .val (.int vb), .val (.int (1 : Int32)), .val (.long D0), .second, .val (.long D1), .second, .val (.long D2), .second, .val (.double xa), .second, .val (.double xb), .second, .val (.double xc), .second, .val (.ref o1), .val (.ref o3), .val (.ref o5), .val (.ref nb6), .unset, .unset] [(.int (3 : Int32)), (.int (1 : Int32))])
    refine own_st (fun t_ k_ => XS.icmpYes X34.here hx rfl (pc0 := 118) (pc' := 130) rfl (hb hby at_118) rfl (by decide) (by decide) (by decide) k_) ?_
    show own_Go p e below _ T34 (mkF m 130 #[.val (.int nn), .val (.long dd), .second, .val (.int ga), .val (.int gb), .val (.int va), .val (.int vb), .val (.int (1 : Int32)), .val (.long D0), .second, .val (.long D1), .second, .val (.long D2), .second, .val (.double xa), .second, .val (.double xb), .second, .val (.double xc), .second, .val (.ref o1), .val (.ref o3), .val (.ref o5), .val (.ref nb6), .unset, .unset] [])
    refine own_st (fun t_ k_ => XS.aload X34.here hx rfl (hb hby at_130) rfl rfl k_) ?_
    show own_Go p e below _ T34 (mkF m 132 #[.val (.int nn), .val (.long dd), .second, .val (.int ga), .val (.int gb), .val (.int va), .val (.int vb), .val (.int (1 : Int32)), .val (.long D0), .second, .val (.long D1), .second, .val (.long D2), .second, .val (.double xa), .second, .val (.double xb), .second, .val (.double xc), .second, .val (.ref o1), .val (.ref o3), .val (.ref o5), .val (.ref nb6), .unset, .unset] [(.ref nb6)])
    obtain ⟨cq37, kq37, q37a, q37b, q37c⟩ := isOf hZ rfl Eq34
    refine own_callV X34 hx (y := (⟨"com/example/hebelwerk/hebelwerk/engine/DatedValues$Builder", "build", "()Lcom/example/hebelwerk/hebelwerk/engine/DatedValues;"⟩ : MethodName)) (z := (⟨"com/example/hebelwerk/hebelwerk/engine/DatedValues$Builder", "build", "()Lcom/example/hebelwerk/hebelwerk/engine/DatedValues;"⟩ : MethodName)) hown (mvT hZ (hw _ (List.mem_of_getElem? (i := 81) rfl))) (mvT hZ (hw _ (List.mem_of_getElem? (i := 82) rfl))) (notFace_of_selects (args := #[]) (mvT hZ (hw _ (List.mem_of_getElem? (i := 84) rfl)))) (mvT hZ (hw _ (List.mem_of_getElem? (i := 84) rfl))) (mvT hZ (hw _ (List.mem_of_getElem? (i := 83) rfl))) (by decide) (backOf (W := 0) (rmBD1 l Z a0 hw [] nb6 ta7 tb7 ka7 kb7 D0 (0 : Int64) (0 : Int64) xa (0 : UInt64) (0 : UInt64) T34.heap n0 (Nat.le_trans Z0 K34.1) Eq34 Fd34 Fv34 Fs34 Aa34 Ab34) hZ (hw _ (List.mem_of_getElem? (i := 85) rfl)) (hw _ (List.mem_of_getElem? (i := 70) rfl)) (by decide) (by decide)) q37a q37c (g := (mkF m 132 #[.val (.int nn), .val (.long dd), .second, .val (.int ga), .val (.int gb), .val (.int va), .val (.int vb), .val (.int (1 : Int32)), .val (.long D0), .second, .val (.long D1), .second, .val (.long D2), .second, .val (.double xa), .second, .val (.double xb), .second, .val (.double xc), .second, .val (.ref o1), .val (.ref o3), .val (.ref o5), .val (.ref nb6), .unset, .unset] [(.ref nb6)])) rfl (by rw [hml]; rfl) (argsL := []) (rest := []) (lenOf pd_14 rfl) rfl (by show 2 * 0 + _ ≤ _; exact Nat.le_of_eq rfl) (hb hby at_132) rfl rfl (by decide) (by decide) ?_
    rintro v36 T36 L36 X36 ⟨o36, ta36, tb36, ka36, kb36, rfl, Nq36, Kq36, Eo36, Fd36, Fv36, Aa36, Ab36⟩
    have N36 := Fr.app N34 Nq36
    have K36 : Keep h0 T36.heap [] := K34.trans Kq36 all0
    show own_Go p e below _ T36 (mkF m 135 #[.val (.int nn), .val (.long dd), .second, .val (.int ga), .val (.int gb), .val (.int va), .val (.int vb), .val (.int (1 : Int32)), .val (.long D0), .second, .val (.long D1), .second, .val (.long D2), .second, .val (.double xa), .second, .val (.double xb), .second, .val (.double xc), .second, .val (.ref o1), .val (.ref o3), .val (.ref o5), .val (.ref nb6), .unset, .unset] [(.ref o36)])
    refine own_st (fun t_ k_ => XS.astore X36.here hx rfl (hb hby at_135) rfl rfl (l' := #[.val (.int nn), .val (.long dd), .second, .val (.int ga), .val (.int gb), .val (.int va), .val (.int vb), .val (.int (1 : Int32)), .val (.long D0), .second, .val (.long D1), .second, .val (.long D2), .second, .val (.double xa), .second, .val (.double xb), .second, .val (.double xc), .second, .val (.ref o1), .val (.ref o3), .val (.ref o5), .val (.ref nb6), .val (.ref o36), .unset]) rfl k_) ?_
    show own_Go p e below _ T36 (mkF m 137 #[.val (.int nn), .val (.long dd), .second, .val (.int ga), .val (.int gb), .val (.int va), .val (.int vb), .val (.int (1 : Int32)), .val (.long D0), .second, .val (.long D1), .second, .val (.long D2), .second, .val (.double xa), .second, .val (.double xb), .second, .val (.double xc), .second, .val (.ref o1), .val (.ref o3), .val (.ref o5), .val (.ref nb6), .val (.ref o36), .unset] [])
    refine own_st (fun t_ k_ => XS.aload X36.here hx rfl (hb hby at_137) rfl rfl k_) ?_
    show own_Go p e below _ T36 (mkF m 139 #[.val (.int nn), .val (.long dd), .second, .val (.int ga), .val (.int gb), .val (.int va), .val (.int vb), .val (.int (1 : Int32)), .val (.long D0), .second, .val (.long D1), .second, .val (.long D2), .second, .val (.double xa), .second, .val (.double xb), .second, .val (.double xc), .second, .val (.ref o1), .val (.ref o3), .val (.ref o5), .val (.ref nb6), .val (.ref o36), .unset] [(.ref o36)])
    obtain ⟨cq39, kq39, q39a, q39b, q39c⟩ := isOf hZ rfl Eo36
    refine own_callV X36 hx (y := (⟨"com/example/hebelwerk/hebelwerk/engine/DatedValues", "size", "()I"⟩ : MethodName)) (z := (⟨"com/example/hebelwerk/hebelwerk/engine/DatedValues", "size", "()I"⟩ : MethodName)) hown (mvT hZ (hw _ (List.mem_of_getElem? (i := 114) rfl))) (mvT hZ (hw _ (List.mem_of_getElem? (i := 115) rfl))) (notFace_of_selects (args := #[]) (mvT hZ (hw _ (List.mem_of_getElem? (i := 117) rfl)))) (mvT hZ (hw _ (List.mem_of_getElem? (i := 117) rfl))) (mvT hZ (hw _ (List.mem_of_getElem? (i := 116) rfl))) (by decide) (backOf (W := 0) (rmSI1 l Z a0 hw [] o36 ta36 ka36 D0 T36.heap n0 (Nat.le_trans Z0 K36.1) Fd36 Aa36) hZ (hw _ (List.mem_of_getElem? (i := 118) rfl)) (hw _ (List.mem_of_getElem? (i := 88) rfl)) (by decide) (by decide)) q39a q39c (g := (mkF m 139 #[.val (.int nn), .val (.long dd), .second, .val (.int ga), .val (.int gb), .val (.int va), .val (.int vb), .val (.int (1 : Int32)), .val (.long D0), .second, .val (.long D1), .second, .val (.long D2), .second, .val (.double xa), .second, .val (.double xb), .second, .val (.double xc), .second, .val (.ref o1), .val (.ref o3), .val (.ref o5), .val (.ref nb6), .val (.ref o36), .unset] [(.ref o36)])) rfl (by rw [hml]; rfl) (argsL := []) (rest := []) (lenOf pd_15 rfl) rfl (by show 2 * 0 + _ ≤ _; exact Nat.le_of_eq rfl) (hb hby at_139) rfl rfl (by decide) (by decide) ?_
    rintro v38 T38 L38 X38 ⟨rfl, Nq38, hh38⟩
    have N38 := Fr.app N36 Nq38
    show own_Go p e below _ T38 (mkF m 142 #[.val (.int nn), .val (.long dd), .second, .val (.int ga), .val (.int gb), .val (.int va), .val (.int vb), .val (.int (1 : Int32)), .val (.long D0), .second, .val (.long D1), .second, .val (.long D2), .second, .val (.double xa), .second, .val (.double xb), .second, .val (.double xc), .second, .val (.ref o1), .val (.ref o3), .val (.ref o5), .val (.ref nb6), .val (.ref o36), .unset] [(.int (1 : Int32))])
    refine own_st (fun t_ k_ => XS.iload X38.here hx rfl (hb hby at_142) rfl k_) ?_
    show own_Go p e below _ T38 (mkF m 144 #[.val (.int nn), .val (.long dd), .second, .val (.int ga), .val (.int gb), .val (.int va), .val (.int vb), .val (.int (1 : Int32)), .val (.long D0), .second, .val (.long D1), .second, .val (.long D2), .second, .val (.double xa), .second, .val (.double xb), .second, .val (.double xc), .second, .val (.ref o1), .val (.ref o3), .val (.ref o5), .val (.ref nb6), .val (.ref o36), .unset] [(.int (1 : Int32)), (.int (1 : Int32))])
    refine own_st (fun t_ k_ => XS.icmpNo X38.here hx rfl (hb hby at_144) rfl (by decide) k_) ?_
    show own_Go p e below _ T38 (mkF m 147 #[.val (.int nn), .val (.long dd), .second, .val (.int ga), .val (.int gb), .val (.int va), .val (.int vb), .val (.int (1 : Int32)), .val (.long D0), .second, .val (.long D1), .second, .val (.long D2), .second, .val (.double xa), .second, .val (.double xb), .second, .val (.double xc), .second, .val (.ref o1), .val (.ref o3), .val (.ref o5), .val (.ref nb6), .val (.ref o36), .unset] [])
    refine own_st (fun t_ k_ => XS.aload X38.here hx rfl (hb hby at_147) rfl rfl k_) ?_
    show own_Go p e below _ T38 (mkF m 149 #[.val (.int nn), .val (.long dd), .second, .val (.int ga), .val (.int gb), .val (.int va), .val (.int vb), .val (.int (1 : Int32)), .val (.long D0), .second, .val (.long D1), .second, .val (.long D2), .second, .val (.double xa), .second, .val (.double xb), .second, .val (.double xc), .second, .val (.ref o1), .val (.ref o3), .val (.ref o5), .val (.ref nb6), .val (.ref o36), .unset] [(.ref o36)])
    obtain ⟨cq41, kq41, q41a, q41b, q41c⟩ := isOf hZ hh38 Eo36
    refine own_callV X38 hx (y := (⟨"com/example/hebelwerk/hebelwerk/engine/DatedValues", "isEmpty", "()Z"⟩ : MethodName)) (z := (⟨"com/example/hebelwerk/hebelwerk/engine/DatedValues", "isEmpty", "()Z"⟩ : MethodName)) hown (mvT hZ (hw _ (List.mem_of_getElem? (i := 119) rfl))) (mvT hZ (hw _ (List.mem_of_getElem? (i := 120) rfl))) (notFace_of_selects (args := #[]) (mvT hZ (hw _ (List.mem_of_getElem? (i := 122) rfl)))) (mvT hZ (hw _ (List.mem_of_getElem? (i := 122) rfl))) (mvT hZ (hw _ (List.mem_of_getElem? (i := 121) rfl))) (by decide) (backOf (W := 0) (rmIS1 l Z a0 hw [] o36 ta36 ka36 D0 T36.heap n0 (Nat.le_trans Z0 K36.1) Fd36 Aa36) hZ (hw _ (List.mem_of_getElem? (i := 123) rfl)) (hw _ (List.mem_of_getElem? (i := 88) rfl)) (by decide) (by decide)) q41a q41c (g := (mkF m 149 #[.val (.int nn), .val (.long dd), .second, .val (.int ga), .val (.int gb), .val (.int va), .val (.int vb), .val (.int (1 : Int32)), .val (.long D0), .second, .val (.long D1), .second, .val (.long D2), .second, .val (.double xa), .second, .val (.double xb), .second, .val (.double xc), .second, .val (.ref o1), .val (.ref o3), .val (.ref o5), .val (.ref nb6), .val (.ref o36), .unset] [(.ref o36)])) rfl (by rw [hml]; rfl) (argsL := []) (rest := []) (lenOf pd_6 rfl) rfl (by show 2 * 0 + _ ≤ _; exact Nat.le_of_eq rfl) (hb hby at_149) rfl hh38 (by decide) (by decide) ?_
    rintro v40 T40 L40 X40 ⟨rfl, Nq40, hh40⟩
    have N40 := Fr.app N38 Nq40
    show own_Go p e below _ T40 (mkF m 152 #[.val (.int nn), .val (.long dd), .second, .val (.int ga), .val (.int gb), .val (.int va), .val (.int vb), .val (.int (1 : Int32)), .val (.long D0), .second, .val (.long D1), .second, .val (.long D2), .second, .val (.double xa), .second, .val (.double xb), .second, .val (.double xc), .second, .val (.ref o1), .val (.ref o3), .val (.ref o5), .val (.ref nb6), .val (.ref o36), .unset] [(.int (0 : Int32))])
    refine own_st (fun t_ k_ => XS.iload X40.here hx rfl (hb hby at_152) rfl k_) ?_
    show own_Go p e below _ T40 (mkF m 154 #[.val (.int nn), .val (.long dd), .second, .val (.int ga), .val (.int gb), .val (.int va), .val (.int vb), .val (.int (1 : Int32)), .val (.long D0), .second, .val (.long D1), .second, .val (.long D2), .second, .val (.double xa), .second, .val (.double xb), .second, .val (.double xc), .second, .val (.ref o1), .val (.ref o3), .val (.ref o5), .val (.ref nb6), .val (.ref o36), .unset] [(.int (1 : Int32)), (.int (0 : Int32))])
    refine own_st (fun t_ k_ => XS.ifYes X40.here hx rfl (pc0 := 154) (pc' := 161) rfl (hb hby at_154) rfl (by decide) (by decide) (by decide) k_) ?_
    show own_Go p e below _ T40 (mkF m 161 #[.val (.int nn), .val (.long dd), .second, .val (.int ga), .val (.int gb), .val (.int va), .val (.int vb), .val (.int (1 : Int32)), .val (.long D0), .second, .val (.long D1), .second, .val (.long D2), .second, .val (.double xa), .second, .val (.double xb), .second, .val (.double xc), .second, .val (.ref o1), .val (.ref o3), .val (.ref o5), .val (.ref nb6), .val (.ref o36), .unset] [(.int (0 : Int32))])
    refine own_st (fun t_ k_ => XS.iconst X40.here hx rfl (hb hby at_161) k_) ?_
    show own_Go p e below _ T40 (mkF m 162 #[.val (.int nn), .val (.long dd), .second, .val (.int ga), .val (.int gb), .val (.int va), .val (.int vb), .val (.int (1 : Int32)), .val (.long D0), .second, .val (.long D1), .second, .val (.long D2), .second, .val (.double xa), .second, .val (.double xb), .second, .val (.double xc), .second, .val (.ref o1), .val (.ref o3), .val (.ref o5), .val (.ref nb6), .val (.ref o36), .unset] [(.int (0 : Int32)), (.int (0 : Int32))])
    refine own_st (fun t_ k_ => XS.icmpNo X40.here hx rfl (hb hby at_162) rfl (by decide) k_) ?_
    show own_Go p e below _ T40 (mkF m 165 #[.val (.int nn), .val (.long dd), .second, .val (.int ga), .val (.int gb), .val (.int va), .val (.int vb), .val (.int (1 : Int32)), .val (.long D0), .second, .val (.long D1), .second, .val (.long D2), .second, .val (.double xa), .second, .val (.double xb), .second, .val (.double xc), .second, .val (.ref o1), .val (.ref o3), .val (.ref o5), .val (.ref nb6), .val (.ref o36), .unset] [])
    refine own_st (fun t_ k_ => XS.iconst X40.here hx rfl (hb hby at_165) k_) ?_
    show own_Go p e below _ T40 (mkF m 166 #[.val (.int nn), .val (.long dd), .second, .val (.int ga), .val (.int gb), .val (.int va), .val (.int vb), .val (.int (1 : Int32)), .val (.long D0), .second, .val (.long D1), .second, .val (.long D2), .second, .val (.double xa), .second, .val (.double xb), .second, .val (.double xc), .second, .val (.ref o1), .val (.ref o3), .val (.ref o5), .val (.ref nb6), .val (.ref o36), .unset] [(.int (1 : Int32))])
    refine own_st (fun t_ k_ => XS.goto X40.here hx rfl (pc0 := 166) (pc' := 170) rfl (hb hby at_166) (by decide) (by decide) k_) ?_
    show own_Go p e below _ T40 (mkF m 170 #[.val (.int nn), .val (.long dd), .second, .val (.int ga), .val (.int gb), .val (.int va), .val (.int vb), .val (.int (1 : Int32)), .val (.long D0), .second, .val (.long D1), .second, .val (.long D2), .second, .val (.double xa), .second, .val (.double xb), .second, .val (.double xc), .second, .val (.ref o1), .val (.ref o3), .val (.ref o5), .val (.ref nb6), .val (.ref o36), .unset] [(.int (1 : Int32))])
    refine own_st (fun t_ k_ => XS.istore X40.here hx rfl (hb hby at_170) rfl (l' := #[.val (.int nn), .val (.long dd), .second, .val (.int ga), .val (.int gb), .val (.int va), .val (.int vb), .val (.int (1 : Int32)), .val (.long D0), .second, .val (.long D1), .second, .val (.long D2), .second, .val (.double xa), .second, .val (.double xb), .second, .val (.double xc), .second, .val (.ref o1), .val (.ref o3), .val (.ref o5), .val (.ref nb6), .val (.ref o36), .val (.int (1 : Int32))]) rfl k_) ?_
    show own_Go p e below _ T40 (mkF m 172 #[.val (.int nn), .val (.long dd), .second, .val (.int ga), .val (.int gb), .val (.int va), .val (.int vb), .val (.int (1 : Int32)), .val (.long D0), .second, .val (.long D1), .second, .val (.long D2), .second, .val (.double xa), .second, .val (.double xb), .second, .val (.double xc), .second, .val (.ref o1), .val (.ref o3), .val (.ref o5), .val (.ref nb6), .val (.ref o36), .val (.int (1 : Int32))] [])
    refine own_st (fun t_ k_ => XS.iload X40.here hx rfl (hb hby at_172) rfl k_) ?_
    show own_Go p e below _ T40 (mkF m 174 #[.val (.int nn), .val (.long dd), .second, .val (.int ga), .val (.int gb), .val (.int va), .val (.int vb), .val (.int (1 : Int32)), .val (.long D0), .second, .val (.long D1), .second, .val (.long D2), .second, .val (.double xa), .second, .val (.double xb), .second, .val (.double xc), .second, .val (.ref o1), .val (.ref o3), .val (.ref o5), .val (.ref nb6), .val (.ref o36), .val (.int (1 : Int32))] [(.int (1 : Int32))])
    refine own_st (fun t_ k_ => XS.ifNo X40.here hx rfl (hb hby at_174) rfl (by decide) k_) ?_
    show own_Go p e below _ T40 (mkF m 177 #[.val (.int nn), .val (.long dd), .second, .val (.int ga), .val (.int gb), .val (.int va), .val (.int vb), .val (.int (1 : Int32)), .val (.long D0), .second, .val (.long D1), .second, .val (.long D2), .second, .val (.double xa), .second, .val (.double xb), .second, .val (.double xc), .second, .val (.ref o1), .val (.ref o3), .val (.ref o5), .val (.ref nb6), .val (.ref o36), .val (.int (1 : Int32))] [])
    refine own_st (fun t_ k_ => XS.iload X40.here hx rfl (hb hby at_177) rfl k_) ?_
    show own_Go p e below _ T40 (mkF m 179 #[.val (.int nn), .val (.long dd), .second, .val (.int ga), .val (.int gb), .val (.int va), .val (.int vb), .val (.int (1 : Int32)), .val (.long D0), .second, .val (.long D1), .second, .val (.long D2), .second, .val (.double xa), .second, .val (.double xb), .second, .val (.double xc), .second, .val (.ref o1), .val (.ref o3), .val (.ref o5), .val (.ref nb6), .val (.ref o36), .val (.int (1 : Int32))] [(.int (1 : Int32))])
    refine own_st (fun t_ k_ => XS.iconst X40.here hx rfl (hb hby at_179) k_) ?_
    show own_Go p e below _ T40 (mkF m 180 #[.val (.int nn), .val (.long dd), .second, .val (.int ga), .val (.int gb), .val (.int va), .val (.int vb), .val (.int (1 : Int32)), .val (.long D0), .second, .val (.long D1), .second, .val (.long D2), .second, .val (.double xa), .second, .val (.double xb), .second, .val (.double xc), .second, .val (.ref o1), .val (.ref o3), .val (.ref o5), .val (.ref nb6), .val (.ref o36), .val (.int (1 : Int32))] [(.int (1 : Int32)), (.int (1 : Int32))])
    refine own_st (fun t_ k_ => XS.icmpNo X40.here hx rfl (hb hby at_180) rfl (by decide) k_) ?_
    show own_Go p e below _ T40 (mkF m 183 #[.val (.int nn), .val (.long dd), .second, .val (.int ga), .val (.int gb), .val (.int va), .val (.int vb), .val (.int (1 : Int32)), .val (.long D0), .second, .val (.long D1), .second, .val (.long D2), .second, .val (.double xa), .second, .val (.double xb), .second, .val (.double xc), .second, .val (.ref o1), .val (.ref o3), .val (.ref o5), .val (.ref nb6), .val (.ref o36), .val (.int (1 : Int32))] [])
    refine own_st (fun t_ k_ => XS.aload X40.here hx rfl (hb hby at_183) rfl rfl k_) ?_
    show own_Go p e below _ T40 (mkF m 185 #[.val (.int nn), .val (.long dd), .second, .val (.int ga), .val (.int gb), .val (.int va), .val (.int vb), .val (.int (1 : Int32)), .val (.long D0), .second, .val (.long D1), .second, .val (.long D2), .second, .val (.double xa), .second, .val (.double xb), .second, .val (.double xc), .second, .val (.ref o1), .val (.ref o3), .val (.ref o5), .val (.ref nb6), .val (.ref o36), .val (.int (1 : Int32))] [(.ref o36)])
    refine own_st (fun t_ k_ => XS.iconst X40.here hx rfl (hb hby at_185) k_) ?_
    show own_Go p e below _ T40 (mkF m 186 #[.val (.int nn), .val (.long dd), .second, .val (.int ga), .val (.int gb), .val (.int va), .val (.int vb), .val (.int (1 : Int32)), .val (.long D0), .second, .val (.long D1), .second, .val (.long D2), .second, .val (.double xa), .second, .val (.double xb), .second, .val (.double xc), .second, .val (.ref o1), .val (.ref o3), .val (.ref o5), .val (.ref nb6), .val (.ref o36), .val (.int (1 : Int32))] [(.int (0 : Int32)), (.ref o36)])
    have f42 := (f31.keep Kq34 (allS g_nb6 (allS g_ta7 (allS g_tb7 all0))))
    have f43 := (f42.keep Kq36 all0)
    obtain ⟨cq45, kq45, q45a, q45b, q45c⟩ := isOf hZ hh40 Eo36
    refine own_callV X40 hx (y := (⟨"com/example/hebelwerk/hebelwerk/engine/DatedValues", "date", "(I)Ljava/time/LocalDate;"⟩ : MethodName)) (z := (⟨"com/example/hebelwerk/hebelwerk/engine/DatedValues", "date", "(I)Ljava/time/LocalDate;"⟩ : MethodName)) hown (mvT hZ (hw _ (List.mem_of_getElem? (i := 149) rfl))) (mvT hZ (hw _ (List.mem_of_getElem? (i := 150) rfl))) (notFace_of_selects (args := #[]) (mvT hZ (hw _ (List.mem_of_getElem? (i := 152) rfl)))) (mvT hZ (hw _ (List.mem_of_getElem? (i := 152) rfl))) (mvT hZ (hw _ (List.mem_of_getElem? (i := 151) rfl))) (by decide) (backOf (W := 0) (rmDT10 l Z a0 hw [] o36 ta36 ka36 D0 cf rg iso T36.heap n0 (Nat.le_trans Z0 K36.1) f43 SEp Ecf Frg Erg Fmn Fmx SIn Eis Fd36 Aa36 (own_b0 d_D0)) hZ (hw _ (List.mem_of_getElem? (i := 153) rfl)) (hw _ (List.mem_of_getElem? (i := 88) rfl)) (by decide) (by decide)) q45a q45c (g := (mkF m 186 #[.val (.int nn), .val (.long dd), .second, .val (.int ga), .val (.int gb), .val (.int va), .val (.int vb), .val (.int (1 : Int32)), .val (.long D0), .second, .val (.long D1), .second, .val (.long D2), .second, .val (.double xa), .second, .val (.double xb), .second, .val (.double xc), .second, .val (.ref o1), .val (.ref o3), .val (.ref o5), .val (.ref nb6), .val (.ref o36), .val (.int (1 : Int32))] [(.int (0 : Int32)), (.ref o36)])) rfl (by rw [hml]; rfl) (argsL := [(.int (0 : Int32))]) (rest := []) (lenOf pd_17 rfl) rfl (by show 2 * 0 + _ ≤ _; exact Nat.le_of_eq rfl) (hb hby at_186) rfl hh40 (by decide) (by decide) ?_
    rintro v44 T44 L44 X44 ⟨o44, y44, mo44, kd44, rfl, Nq44, Kq44, go44, g_o44, Eo44, Fy44, Fm44, Fd44, hD44⟩
    have N44 := Fr.app N40 Nq44
    have K44 : Keep h0 T44.heap [] := K36.trans Kq44 all0
    have sz_o44 : h0.size ≤ o44 := Nat.le_trans K36.1 go44
    show own_Go p e below _ T44 (mkF m 189 #[.val (.int nn), .val (.long dd), .second, .val (.int ga), .val (.int gb), .val (.int va), .val (.int vb), .val (.int (1 : Int32)), .val (.long D0), .second, .val (.long D1), .second, .val (.long D2), .second, .val (.double xa), .second, .val (.double xb), .second, .val (.double xc), .second, .val (.ref o1), .val (.ref o3), .val (.ref o5), .val (.ref nb6), .val (.ref o36), .val (.int (1 : Int32))] [(.ref o44)])
    have f46 := (f43.keep Kq44 all0)
    obtain ⟨cq48, kq48, q48a, q48b, q48c⟩ := isOf hZ rfl Eo44
    refine own_callV X44 hx (y := (⟨"java/time/LocalDate", "toEpochDay", "()J"⟩ : MethodName)) (z := (⟨"java/time/LocalDate", "toEpochDay", "()J"⟩ : MethodName)) hown (mvT hZ (hw _ (List.mem_of_getElem? (i := 155) rfl))) (mvT hZ (hw _ (List.mem_of_getElem? (i := 130) rfl))) (notFace_of_selects (args := #[]) (mvT hZ (hw _ (List.mem_of_getElem? (i := 132) rfl)))) (mvT hZ (hw _ (List.mem_of_getElem? (i := 132) rfl))) (mvT hZ (hw _ (List.mem_of_getElem? (i := 131) rfl))) (by decide) (backOf (W := 0) (rmTE l Z a0 hw [] o44 y44 mo44 kd44 D0 cf rg iso T44.heap n0 (Nat.le_trans Z0 K44.1) f46 SEp Ecf Frg Erg Fmn Fmx SIn Eis Eo44 Fy44 Fm44 Fd44 hD44 (own_b0 d_D0)) hZ (hw _ (List.mem_of_getElem? (i := 133) rfl)) (hw _ (List.mem_of_getElem? (i := 4) rfl)) (by decide) (by decide)) q48a q48c (g := (mkF m 189 #[.val (.int nn), .val (.long dd), .second, .val (.int ga), .val (.int gb), .val (.int va), .val (.int vb), .val (.int (1 : Int32)), .val (.long D0), .second, .val (.long D1), .second, .val (.long D2), .second, .val (.double xa), .second, .val (.double xb), .second, .val (.double xc), .second, .val (.ref o1), .val (.ref o3), .val (.ref o5), .val (.ref nb6), .val (.ref o36), .val (.int (1 : Int32))] [(.ref o44)])) rfl (by rw [hml]; rfl) (argsL := []) (rest := []) (lenOf pd_0 rfl) rfl (by show 2 * 0 + _ ≤ _; exact Nat.le_of_eq rfl) (hb hby at_189) rfl rfl (by decide) (by decide) ?_
    rintro v47 T47 L47 X47 ⟨rfl, Nq47, hh47⟩
    have N47 := Fr.app N44 Nq47
    show own_Go p e below _ T47 (mkF m 192 #[.val (.int nn), .val (.long dd), .second, .val (.int ga), .val (.int gb), .val (.int va), .val (.int vb), .val (.int (1 : Int32)), .val (.long D0), .second, .val (.long D1), .second, .val (.long D2), .second, .val (.double xa), .second, .val (.double xb), .second, .val (.double xc), .second, .val (.ref o1), .val (.ref o3), .val (.ref o5), .val (.ref nb6), .val (.ref o36), .val (.int (1 : Int32))] [(.long D0)])
    refine own_st (fun t_ k_ => XS.lload X47.here hx rfl (hb hby at_192) rfl k_) ?_
    show own_Go p e below _ T47 (mkF m 194 #[.val (.int nn), .val (.long dd), .second, .val (.int ga), .val (.int gb), .val (.int va), .val (.int vb), .val (.int (1 : Int32)), .val (.long D0), .second, .val (.long D1), .second, .val (.long D2), .second, .val (.double xa), .second, .val (.double xb), .second, .val (.double xc), .second, .val (.ref o1), .val (.ref o3), .val (.ref o5), .val (.ref nb6), .val (.ref o36), .val (.int (1 : Int32))] [(.long D0), (.long D0)])
    refine own_st (fun t_ k_ => XS.lcmp X47.here hx rfl (hb hby at_194) rfl k_) ?_
    show own_Go p e below _ T47 (mkF m 195 #[.val (.int nn), .val (.long dd), .second, .val (.int ga), .val (.int gb), .val (.int va), .val (.int vb), .val (.int (1 : Int32)), .val (.long D0), .second, .val (.long D1), .second, .val (.long D2), .second, .val (.double xa), .second, .val (.double xb), .second, .val (.double xc), .second, .val (.ref o1), .val (.ref o3), .val (.ref o5), .val (.ref nb6), .val (.ref o36), .val (.int (1 : Int32))] [(.int (lcmpW D0 D0))])
    refine own_st (fun t_ k_ => XS.ifNo X47.here hx rfl (hb hby at_195) rfl ((if0 _ _).trans (teq qD0).2) k_) ?_
    show own_Go p e below _ T47 (mkF m 198 #[.val (.int nn), .val (.long dd), .second, .val (.int ga), .val (.int gb), .val (.int va), .val (.int vb), .val (.int (1 : Int32)), .val (.long D0), .second, .val (.long D1), .second, .val (.long D2), .second, .val (.double xa), .second, .val (.double xb), .second, .val (.double xc), .second, .val (.ref o1), .val (.ref o3), .val (.ref o5), .val (.ref nb6), .val (.ref o36), .val (.int (1 : Int32))] [])
    refine own_st (fun t_ k_ => XS.aload X47.here hx rfl (hb hby at_198) rfl rfl k_) ?_
    show own_Go p e below _ T47 (mkF m 200 #[.val (.int nn), .val (.long dd), .second, .val (.int ga), .val (.int gb), .val (.int va), .val (.int vb), .val (.int (1 : Int32)), .val (.long D0), .second, .val (.long D1), .second, .val (.long D2), .second, .val (.double xa), .second, .val (.double xb), .second, .val (.double xc), .second, .val (.ref o1), .val (.ref o3), .val (.ref o5), .val (.ref nb6), .val (.ref o36), .val (.int (1 : Int32))] [(.ref o36)])
    refine own_st (fun t_ k_ => XS.iconst X47.here hx rfl (hb hby at_200) k_) ?_
    show own_Go p e below _ T47 (mkF m 201 #[.val (.int nn), .val (.long dd), .second, .val (.int ga), .val (.int gb), .val (.int va), .val (.int vb), .val (.int (1 : Int32)), .val (.long D0), .second, .val (.long D1), .second, .val (.long D2), .second, .val (.double xa), .second, .val (.double xb), .second, .val (.double xc), .second, .val (.ref o1), .val (.ref o3), .val (.ref o5), .val (.ref nb6), .val (.ref o36), .val (.int (1 : Int32))] [(.int (0 : Int32)), (.ref o36)])
    have f49 := (Fv36.keep Kq44 nin0)
    have f50 := (Ab36.keep Kq44 nin0)
    have f53 := (Eo36.keep Kq44)
    obtain ⟨cq52, kq52, q52a, q52b, q52c⟩ := isOf hZ hh47 f53
    refine own_callV X47 hx (y := (⟨"com/example/hebelwerk/hebelwerk/engine/DatedValues", "value", "(I)D"⟩ : MethodName)) (z := (⟨"com/example/hebelwerk/hebelwerk/engine/DatedValues", "value", "(I)D"⟩ : MethodName)) hown (mvT hZ (hw _ (List.mem_of_getElem? (i := 156) rfl))) (mvT hZ (hw _ (List.mem_of_getElem? (i := 157) rfl))) (notFace_of_selects (args := #[]) (mvT hZ (hw _ (List.mem_of_getElem? (i := 159) rfl)))) (mvT hZ (hw _ (List.mem_of_getElem? (i := 159) rfl))) (mvT hZ (hw _ (List.mem_of_getElem? (i := 158) rfl))) (by decide) (backOf (W := 0) (rmVL10 l Z a0 hw [] o36 tb36 kb36 xa T44.heap n0 (Nat.le_trans Z0 K44.1) f49 f50) hZ (hw _ (List.mem_of_getElem? (i := 160) rfl)) (hw _ (List.mem_of_getElem? (i := 88) rfl)) (by decide) (by decide)) q52a q52c (g := (mkF m 201 #[.val (.int nn), .val (.long dd), .second, .val (.int ga), .val (.int gb), .val (.int va), .val (.int vb), .val (.int (1 : Int32)), .val (.long D0), .second, .val (.long D1), .second, .val (.long D2), .second, .val (.double xa), .second, .val (.double xb), .second, .val (.double xc), .second, .val (.ref o1), .val (.ref o3), .val (.ref o5), .val (.ref nb6), .val (.ref o36), .val (.int (1 : Int32))] [(.int (0 : Int32)), (.ref o36)])) rfl (by rw [hml]; rfl) (argsL := [(.int (0 : Int32))]) (rest := []) (lenOf pd_18 rfl) rfl (by show 2 * 0 + _ ≤ _; exact Nat.le_of_eq rfl) (hb hby at_201) rfl hh47 (by decide) (by decide) ?_
    rintro v51 T51 L51 X51 ⟨rfl, Nq51, hh51⟩
    have N51 := Fr.app N47 Nq51
    show own_Go p e below _ T51 (mkF m 204 #[.val (.int nn), .val (.long dd), .second, .val (.int ga), .val (.int gb), .val (.int va), .val (.int vb), .val (.int (1 : Int32)), .val (.long D0), .second, .val (.long D1), .second, .val (.long D2), .second, .val (.double xa), .second, .val (.double xb), .second, .val (.double xc), .second, .val (.ref o1), .val (.ref o3), .val (.ref o5), .val (.ref nb6), .val (.ref o36), .val (.int (1 : Int32))] [(.double xa)])
    refine own_st (fun t_ k_ => XS.dload X51.here hx rfl (hb hby at_204) rfl k_) ?_
    show own_Go p e below _ T51 (mkF m 206 #[.val (.int nn), .val (.long dd), .second, .val (.int ga), .val (.int gb), .val (.int va), .val (.int vb), .val (.int (1 : Int32)), .val (.long D0), .second, .val (.long D1), .second, .val (.long D2), .second, .val (.double xa), .second, .val (.double xb), .second, .val (.double xc), .second, .val (.ref o1), .val (.ref o3), .val (.ref o5), .val (.ref nb6), .val (.ref o36), .val (.int (1 : Int32))] [(.double xa), (.double xa)])
    refine own_st (fun t_ k_ => XS.dcmpS X51.here hx rfl (hb hby at_206) rfl (v := (0 : Int32)) (dcmpV_self d_xa.noNaN _) k_) ?_
    show own_Go p e below _ T51 (mkF m 207 #[.val (.int nn), .val (.long dd), .second, .val (.int ga), .val (.int gb), .val (.int va), .val (.int vb), .val (.int (1 : Int32)), .val (.long D0), .second, .val (.long D1), .second, .val (.long D2), .second, .val (.double xa), .second, .val (.double xb), .second, .val (.double xc), .second, .val (.ref o1), .val (.ref o3), .val (.ref o5), .val (.ref nb6), .val (.ref o36), .val (.int (1 : Int32))] [(.int (0 : Int32))])
    refine own_st (fun t_ k_ => XS.ifNo X51.here hx rfl (hb hby at_207) rfl (by decide) k_) ?_
    show own_Go p e below _ T51 (mkF m 210 #[.val (.int nn), .val (.long dd), .second, .val (.int ga), .val (.int gb), .val (.int va), .val (.int vb), .val (.int (1 : Int32)), .val (.long D0), .second, .val (.long D1), .second, .val (.long D2), .second, .val (.double xa), .second, .val (.double xb), .second, .val (.double xc), .second, .val (.ref o1), .val (.ref o3), .val (.ref o5), .val (.ref nb6), .val (.ref o36), .val (.int (1 : Int32))] [])
    refine own_st (fun t_ k_ => XS.iconst X51.here hx rfl (hb hby at_210) k_) ?_
    show own_Go p e below _ T51 (mkF m 211 #[.val (.int nn), .val (.long dd), .second, .val (.int ga), .val (.int gb), .val (.int va), .val (.int vb), .val (.int (1 : Int32)), .val (.long D0), .second, .val (.long D1), .second, .val (.long D2), .second, .val (.double xa), .second, .val (.double xb), .second, .val (.double xc), .second, .val (.ref o1), .val (.ref o3), .val (.ref o5), .val (.ref nb6), .val (.ref o36), .val (.int (1 : Int32))] [(.int (1 : Int32))])
    refine own_st (fun t_ k_ => XS.goto X51.here hx rfl (pc0 := 211) (pc' := 215) rfl (hb hby at_211) (by decide) (by decide) k_) ?_
    show own_Go p e below _ T51 (mkF m 215 #[.val (.int nn), .val (.long dd), .second, .val (.int ga), .val (.int gb), .val (.int va), .val (.int vb), .val (.int (1 : Int32)), .val (.long D0), .second, .val (.long D1), .second, .val (.long D2), .second, .val (.double xa), .second, .val (.double xb), .second, .val (.double xc), .second, .val (.ref o1), .val (.ref o3), .val (.ref o5), .val (.ref nb6), .val (.ref o36), .val (.int (1 : Int32))] [(.int (1 : Int32))])
    refine own_st (fun t_ k_ => XS.istore X51.here hx rfl (hb hby at_215) rfl (l' := #[.val (.int nn), .val (.long dd), .second, .val (.int ga), .val (.int gb), .val (.int va), .val (.int vb), .val (.int (1 : Int32)), .val (.long D0), .second, .val (.long D1), .second, .val (.long D2), .second, .val (.double xa), .second, .val (.double xb), .second, .val (.double xc), .second, .val (.ref o1), .val (.ref o3), .val (.ref o5), .val (.ref nb6), .val (.ref o36), .val (.int (1 : Int32))]) rfl k_) ?_
    show own_Go p e below _ T51 (mkF m 217 #[.val (.int nn), .val (.long dd), .second, .val (.int ga), .val (.int gb), .val (.int va), .val (.int vb), .val (.int (1 : Int32)), .val (.long D0), .second, .val (.long D1), .second, .val (.long D2), .second, .val (.double xa), .second, .val (.double xb), .second, .val (.double xc), .second, .val (.ref o1), .val (.ref o3), .val (.ref o5), .val (.ref nb6), .val (.ref o36), .val (.int (1 : Int32))] [])
    refine own_st (fun t_ k_ => XS.iload X51.here hx rfl (hb hby at_217) rfl k_) ?_
    show own_Go p e below _ T51 (mkF m 219 #[.val (.int nn), .val (.long dd), .second, .val (.int ga), .val (.int gb), .val (.int va), .val (.int vb), .val (.int (1 : Int32)), .val (.long D0), .second, .val (.long D1), .second, .val (.long D2), .second, .val (.double xa), .second, .val (.double xb), .second, .val (.double xc), .second, .val (.ref o1), .val (.ref o3), .val (.ref o5), .val (.ref nb6), .val (.ref o36), .val (.int (1 : Int32))] [(.int (1 : Int32))])
    refine own_st (fun t_ k_ => XS.ifNo X51.here hx rfl (hb hby at_219) rfl (by decide) k_) ?_
    show own_Go p e below _ T51 (mkF m 222 #[.val (.int nn), .val (.long dd), .second, .val (.int ga), .val (.int gb), .val (.int va), .val (.int vb), .val (.int (1 : Int32)), .val (.long D0), .second, .val (.long D1), .second, .val (.long D2), .second, .val (.double xa), .second, .val (.double xb), .second, .val (.double xc), .second, .val (.ref o1), .val (.ref o3), .val (.ref o5), .val (.ref nb6), .val (.ref o36), .val (.int (1 : Int32))] [])
    refine own_st (fun t_ k_ => XS.iload X51.here hx rfl (hb hby at_222) rfl k_) ?_
    show own_Go p e below _ T51 (mkF m 224 #[.val (.int nn), .val (.long dd), .second, .val (.int ga), .val (.int gb), .val (.int va), .val (.int vb), .val (.int (1 : Int32)), .val (.long D0), .second, .val (.long D1), .second, .val (.long D2), .second, .val (.double xa), .second, .val (.double xb), .second, .val (.double xc), .second, .val (.ref o1), .val (.ref o3), .val (.ref o5), .val (.ref nb6), .val (.ref o36), .val (.int (1 : Int32))] [(.int (1 : Int32))])
    refine own_st (fun t_ k_ => XS.iconst X51.here hx rfl (hb hby at_224) k_) ?_
    show own_Go p e below _ T51 (mkF m 225 #[.val (.int nn), .val (.long dd), .second, .val (.int ga), .val (.int gb), .val (.int va), .val (.int vb), .val (.int (1 : Int32)), .val (.long D0), .second, .val (.long D1), .second, .val (.long D2), .second, .val (.double xa), .second, .val (.double xb), .second, .val (.double xc), .second, .val (.ref o1), .val (.ref o3), .val (.ref o5), .val (.ref nb6), .val (.ref o36), .val (.int (1 : Int32))] [(.int (2 : Int32)), (.int (1 : Int32))])
    refine own_st (fun t_ k_ => XS.icmpYes X51.here hx rfl (pc0 := 225) (pc' := 262) rfl (hb hby at_225) rfl (by decide) (by decide) (by decide) k_) ?_
    show own_Go p e below _ T51 (mkF m 262 #[.val (.int nn), .val (.long dd), .second, .val (.int ga), .val (.int gb), .val (.int va), .val (.int vb), .val (.int (1 : Int32)), .val (.long D0), .second, .val (.long D1), .second, .val (.long D2), .second, .val (.double xa), .second, .val (.double xb), .second, .val (.double xc), .second, .val (.ref o1), .val (.ref o3), .val (.ref o5), .val (.ref nb6), .val (.ref o36), .val (.int (1 : Int32))] [])
    refine own_st (fun t_ k_ => XS.iload X51.here hx rfl (hb hby at_262) rfl k_) ?_
    show own_Go p e below _ T51 (mkF m 264 #[.val (.int nn), .val (.long dd), .second, .val (.int ga), .val (.int gb), .val (.int va), .val (.int vb), .val (.int (1 : Int32)), .val (.long D0), .second, .val (.long D1), .second, .val (.long D2), .second, .val (.double xa), .second, .val (.double xb), .second, .val (.double xc), .second, .val (.ref o1), .val (.ref o3), .val (.ref o5), .val (.ref nb6), .val (.ref o36), .val (.int (1 : Int32))] [(.int (1 : Int32))])
    refine own_st (fun t_ k_ => XS.ifNo X51.here hx rfl (hb hby at_264) rfl (by decide) k_) ?_
    show own_Go p e below _ T51 (mkF m 267 #[.val (.int nn), .val (.long dd), .second, .val (.int ga), .val (.int gb), .val (.int va), .val (.int vb), .val (.int (1 : Int32)), .val (.long D0), .second, .val (.long D1), .second, .val (.long D2), .second, .val (.double xa), .second, .val (.double xb), .second, .val (.double xc), .second, .val (.ref o1), .val (.ref o3), .val (.ref o5), .val (.ref nb6), .val (.ref o36), .val (.int (1 : Int32))] [])
    refine own_st (fun t_ k_ => XS.iload X51.here hx rfl (hb hby at_267) rfl k_) ?_
    show own_Go p e below _ T51 (mkF m 269 #[.val (.int nn), .val (.long dd), .second, .val (.int ga), .val (.int gb), .val (.int va), .val (.int vb), .val (.int (1 : Int32)), .val (.long D0), .second, .val (.long D1), .second, .val (.long D2), .second, .val (.double xa), .second, .val (.double xb), .second, .val (.double xc), .second, .val (.ref o1), .val (.ref o3), .val (.ref o5), .val (.ref nb6), .val (.ref o36), .val (.int (1 : Int32))] [(.int (1 : Int32))])
    refine own_st (fun t_ k_ => XS.iconst X51.here hx rfl (hb hby at_269) k_) ?_
    show own_Go p e below _ T51 (mkF m 270 #[.val (.int nn), .val (.long dd), .second, .val (.int ga), .val (.int gb), .val (.int va), .val (.int vb), .val (.int (1 : Int32)), .val (.long D0), .second, .val (.long D1), .second, .val (.long D2), .second, .val (.double xa), .second, .val (.double xb), .second, .val (.double xc), .second, .val (.ref o1), .val (.ref o3), .val (.ref o5), .val (.ref nb6), .val (.ref o36), .val (.int (1 : Int32))] [(.int (3 : Int32)), (.int (1 : Int32))])
    refine own_st (fun t_ k_ => XS.icmpYes X51.here hx rfl (pc0 := 270) (pc' := 307) rfl (hb hby at_270) rfl (by decide) (by decide) (by decide) k_) ?_
    show own_Go p e below _ T51 (mkF m 307 #[.val (.int nn), .val (.long dd), .second, .val (.int ga), .val (.int gb), .val (.int va), .val (.int vb), .val (.int (1 : Int32)), .val (.long D0), .second, .val (.long D1), .second, .val (.long D2), .second, .val (.double xa), .second, .val (.double xb), .second, .val (.double xc), .second, .val (.ref o1), .val (.ref o3), .val (.ref o5), .val (.ref nb6), .val (.ref o36), .val (.int (1 : Int32))] [])
    refine own_st (fun t_ k_ => XS.iload X51.here hx rfl (hb hby at_307) rfl k_) ?_
    show own_Go p e below _ T51 (mkF m 309 #[.val (.int nn), .val (.long dd), .second, .val (.int ga), .val (.int gb), .val (.int va), .val (.int vb), .val (.int (1 : Int32)), .val (.long D0), .second, .val (.long D1), .second, .val (.long D2), .second, .val (.double xa), .second, .val (.double xb), .second, .val (.double xc), .second, .val (.ref o1), .val (.ref o3), .val (.ref o5), .val (.ref nb6), .val (.ref o36), .val (.int (1 : Int32))] [(.int (1 : Int32))])
    refine own_retN X51 hx hlk (t := .boolean) Bd.returns (by simp) (hb hby at_309) ?_ (by decide) (by decide)
    show Q0 n0 _ T51.heap _
    rw [hh51]
    exact ⟨rfl, N51⟩
  · show own_Go p e below _ T7 (mkF m 85 #[.val (.int nn), .val (.long dd), .second, .val (.int ga), .val (.int gb), .val (.int va), .val (.int vb), .val (.int (2 : Int32)), .val (.long D0), .second, .val (.long D1), .second, .val (.long D2), .second, .val (.double xa), .second, .val (.double xb), .second, .val (.double xc), .second, .val (.ref o1), .val (.ref o3), .val (.ref o5), .val (.ref nb6), .unset, .unset] [])
    have qD0 : (lcmpW D0 D0) = (0 : Int32) := own_lce.mpr rfl
    have qD1 : (lcmpW D1 D1) = (0 : Int32) := own_lce.mpr rfl
    have qD2 : (lcmpW D2 D2) = (0 : Int32) := own_lce.mpr rfl
    refine own_st (fun t_ k_ => XS.iload X7.here hx rfl (hb hby at_85) rfl k_) ?_
    show own_Go p e below _ T7 (mkF m 87 #[.val (.int nn), .val (.long dd), .second, .val (.int ga), .val (.int gb), .val (.int va), .val (.int vb), .val (.int (2 : Int32)), .val (.long D0), .second, .val (.long D1), .second, .val (.long D2), .second, .val (.double xa), .second, .val (.double xb), .second, .val (.double xc), .second, .val (.ref o1), .val (.ref o3), .val (.ref o5), .val (.ref nb6), .unset, .unset] [(.int (2 : Int32))])
    refine own_st (fun t_ k_ => XS.iconst X7.here hx rfl (hb hby at_87) k_) ?_
    show own_Go p e below _ T7 (mkF m 88 #[.val (.int nn), .val (.long dd), .second, .val (.int ga), .val (.int gb), .val (.int va), .val (.int vb), .val (.int (2 : Int32)), .val (.long D0), .second, .val (.long D1), .second, .val (.long D2), .second, .val (.double xa), .second, .val (.double xb), .second, .val (.double xc), .second, .val (.ref o1), .val (.ref o3), .val (.ref o5), .val (.ref nb6), .unset, .unset] [(.int (1 : Int32)), (.int (2 : Int32))])
    refine own_st (fun t_ k_ => XS.icmpNo X7.here hx rfl (hb hby at_88) rfl (by decide) k_) ?_
    show own_Go p e below _ T7 (mkF m 91 #[.val (.int nn), .val (.long dd), .second, .val (.int ga), .val (.int gb), .val (.int va), .val (.int vb), .val (.int (2 : Int32)), .val (.long D0), .second, .val (.long D1), .second, .val (.long D2), .second, .val (.double xa), .second, .val (.double xb), .second, .val (.double xc), .second, .val (.ref o1), .val (.ref o3), .val (.ref o5), .val (.ref nb6), .unset, .unset] [])
    refine own_st (fun t_ k_ => XS.aload X7.here hx rfl (hb hby at_91) rfl rfl k_) ?_
    show own_Go p e below _ T7 (mkF m 93 #[.val (.int nn), .val (.long dd), .second, .val (.int ga), .val (.int gb), .val (.int va), .val (.int vb), .val (.int (2 : Int32)), .val (.long D0), .second, .val (.long D1), .second, .val (.long D2), .second, .val (.double xa), .second, .val (.double xb), .second, .val (.double xc), .second, .val (.ref o1), .val (.ref o3), .val (.ref o5), .val (.ref nb6), .unset, .unset] [(.ref nb6)])
    refine own_st (fun t_ k_ => XS.aload X7.here hx rfl (hb hby at_93) rfl rfl k_) ?_
    show own_Go p e below _ T7 (mkF m 95 #[.val (.int nn), .val (.long dd), .second, .val (.int ga), .val (.int gb), .val (.int va), .val (.int vb), .val (.int (2 : Int32)), .val (.long D0), .second, .val (.long D1), .second, .val (.long D2), .second, .val (.double xa), .second, .val (.double xb), .second, .val (.double xc), .second, .val (.ref o1), .val (.ref o3), .val (.ref o5), .val (.ref nb6), .unset, .unset] [(.ref o1), (.ref nb6)])
    refine own_st (fun t_ k_ => XS.dload X7.here hx rfl (hb hby at_95) rfl k_) ?_
    show own_Go p e below _ T7 (mkF m 97 #[.val (.int nn), .val (.long dd), .second, .val (.int ga), .val (.int gb), .val (.int va), .val (.int vb), .val (.int (2 : Int32)), .val (.long D0), .second, .val (.long D1), .second, .val (.long D2), .second, .val (.double xa), .second, .val (.double xb), .second, .val (.double xc), .second, .val (.ref o1), .val (.ref o3), .val (.ref o5), .val (.ref nb6), .unset, .unset] [(.double xa), (.ref o1), (.ref nb6)])
    have f54 := (Fy1.keep Kq3 nin0)
    have f55 := (f54.keep Kq5 nin0)
    have f56 := (Fld.ext E6 f55)
    have f58 := (Eo1.keep Kq3)
    have f59 := (f58.keep Kq5)
    have ne57 : o1 ≠ nb6 := (Nat.ne_of_lt (Nat.lt_of_lt_of_le f59.lt (Nat.le_of_eq g6.symm)))
    have f60 := (f56.keep Kq7 (ninS ne57 nin0))
    have f61 := (Fm1.keep Kq3 nin0)
    have f62 := (f61.keep Kq5 nin0)
    have f63 := (Fld.ext E6 f62)
    have f64 := (f63.keep Kq7 (ninS ne57 nin0))
    have f65 := (Fd1.keep Kq3 nin0)
    have f66 := (f65.keep Kq5 nin0)
    have f67 := (Fld.ext E6 f66)
    have f68 := (f67.keep Kq7 (ninS ne57 nin0))
    have f69 := (f4.keep Kq5 all0)
    have f70 := (f69.ext E6)
    have f71 := (f70.keep Kq7 (allS g_nb6 all0))
    have f72 := (Exa.ext E6 f59)
    have f73 := (f72.keep Kq7)
    obtain ⟨cq75, kq75, q75a, q75b, q75c⟩ := isOf hZ rfl Eq7
    refine own_callV X7 hx (y := (⟨"com/example/hebelwerk/hebelwerk/engine/DatedValues$Builder", "add", "(Ljava/time/LocalDate;D)V"⟩ : MethodName)) (z := (⟨"com/example/hebelwerk/hebelwerk/engine/DatedValues$Builder", "add", "(Ljava/time/LocalDate;D)V"⟩ : MethodName)) hown (mvT hZ (hw _ (List.mem_of_getElem? (i := 124) rfl))) (mvT hZ (hw _ (List.mem_of_getElem? (i := 125) rfl))) (notFace_of_selects (args := #[]) (mvT hZ (hw _ (List.mem_of_getElem? (i := 127) rfl)))) (mvT hZ (hw _ (List.mem_of_getElem? (i := 127) rfl))) (mvT hZ (hw _ (List.mem_of_getElem? (i := 126) rfl))) (by decide) (backOf (W := 0) (rmAD0 l Z a0 hw [] nb6 ta7 tb7 ka7 kb7 o1 y1 mo1 kd1 D0 xa (0 : Int64) (0 : Int64) (0 : Int64) (0 : UInt64) (0 : UInt64) (0 : UInt64) cf rg iso T7.heap n0 (Nat.le_trans Z0 K7.1) f71 SEp Ecf Frg Erg Fmn Fmx SIn Eis g_nb6 g_ta7 g_tb7 Eq7 Fd7 Fv7 Fs7 Aa7 Ab7 f73 f60 f64 f68 hD1 (own_b0 d_D0) d_xa) hZ (hw _ (List.mem_of_getElem? (i := 128) rfl)) (hw _ (List.mem_of_getElem? (i := 70) rfl)) (by decide) (by decide)) q75a q75c (g := (mkF m 97 #[.val (.int nn), .val (.long dd), .second, .val (.int ga), .val (.int gb), .val (.int va), .val (.int vb), .val (.int (2 : Int32)), .val (.long D0), .second, .val (.long D1), .second, .val (.long D2), .second, .val (.double xa), .second, .val (.double xb), .second, .val (.double xc), .second, .val (.ref o1), .val (.ref o3), .val (.ref o5), .val (.ref nb6), .unset, .unset] [(.double xa), (.ref o1), (.ref nb6)])) rfl (by rw [hml]; rfl) (argsL := [(.ref o1), (.double xa)]) (rest := []) (lenOf pd_16 rfl) rfl (by show 2 * 0 + _ ≤ _; exact Nat.le_of_eq rfl) (hb hby at_97) rfl rfl (by decide) (by decide) ?_
    rintro v74 T74 L74 X74 ⟨rfl, Nq74, Kq74, Eq74, Fd74, Fv74, Fs74, Aa74, Ab74⟩
    have N74 := Fr.app N7 Nq74
    have K74 : Keep h0 T74.heap [] := K7.trans Kq74 (allS (Or.inr sz_nb6) (allS (Or.inr sz_ta7) (allS (Or.inr sz_tb7) all0)))
    show own_Go p e below _ T74 (mkF m 100 #[.val (.int nn), .val (.long dd), .second, .val (.int ga), .val (.int gb), .val (.int va), .val (.int vb), .val (.int (2 : Int32)), .val (.long D0), .second, .val (.long D1), .second, .val (.long D2), .second, .val (.double xa), .second, .val (.double xb), .second, .val (.double xc), .second, .val (.ref o1), .val (.ref o3), .val (.ref o5), .val (.ref nb6), .unset, .unset] [])
    refine own_st (fun t_ k_ => XS.iload X74.here hx rfl (hb hby at_100) rfl k_) ?_
    show own_Go p e below _ T74 (mkF m 102 #[.val (.int nn), .val (.long dd), .second, .val (.int ga), .val (.int gb), .val (.int va), .val (.int vb), .val (.int (2 : Int32)), .val (.long D0), .second, .val (.long D1), .second, .val (.long D2), .second, .val (.double xa), .second, .val (.double xb), .second, .val (.double xc), .second, .val (.ref o1), .val (.ref o3), .val (.ref o5), .val (.ref nb6), .unset, .unset] [(.int (2 : Int32))])
    refine own_st (fun t_ k_ => XS.iconst X74.here hx rfl (hb hby at_102) k_) ?_
    show own_Go p e below _ T74 (mkF m 103 #[.val (.int nn), .val (.long dd), .second, .val (.int ga), .val (.int gb), .val (.int va), .val (.int vb), .val (.int (2 : Int32)), .val (.long D0), .second, .val (.long D1), .second, .val (.long D2), .second, .val (.double xa), .second, .val (.double xb), .second, .val (.double xc), .second, .val (.ref o1), .val (.ref o3), .val (.ref o5), .val (.ref nb6), .unset, .unset] [(.int (2 : Int32)), (.int (2 : Int32))])
    refine own_st (fun t_ k_ => XS.icmpNo X74.here hx rfl (hb hby at_103) rfl (by decide) k_) ?_
    show own_Go p e below _ T74 (mkF m 106 #[.val (.int nn), .val (.long dd), .second, .val (.int ga), .val (.int gb), .val (.int va), .val (.int vb), .val (.int (2 : Int32)), .val (.long D0), .second, .val (.long D1), .second, .val (.long D2), .second, .val (.double xa), .second, .val (.double xb), .second, .val (.double xc), .second, .val (.ref o1), .val (.ref o3), .val (.ref o5), .val (.ref nb6), .unset, .unset] [])
    refine own_st (fun t_ k_ => XS.aload X74.here hx rfl (hb hby at_106) rfl rfl k_) ?_
    show own_Go p e below _ T74 (mkF m 108 #[.val (.int nn), .val (.long dd), .second, .val (.int ga), .val (.int gb), .val (.int va), .val (.int vb), .val (.int (2 : Int32)), .val (.long D0), .second, .val (.long D1), .second, .val (.long D2), .second, .val (.double xa), .second, .val (.double xb), .second, .val (.double xc), .second, .val (.ref o1), .val (.ref o3), .val (.ref o5), .val (.ref nb6), .unset, .unset] [(.ref nb6)])
    refine own_st (fun t_ k_ => XS.aload X74.here hx rfl (hb hby at_108) rfl rfl k_) ?_
    show own_Go p e below _ T74 (mkF m 110 #[.val (.int nn), .val (.long dd), .second, .val (.int ga), .val (.int gb), .val (.int va), .val (.int vb), .val (.int (2 : Int32)), .val (.long D0), .second, .val (.long D1), .second, .val (.long D2), .second, .val (.double xa), .second, .val (.double xb), .second, .val (.double xc), .second, .val (.ref o1), .val (.ref o3), .val (.ref o5), .val (.ref nb6), .unset, .unset] [(.ref o3), (.ref nb6)])
    refine own_st (fun t_ k_ => XS.dload X74.here hx rfl (hb hby at_110) rfl k_) ?_
    show own_Go p e below _ T74 (mkF m 112 #[.val (.int nn), .val (.long dd), .second, .val (.int ga), .val (.int gb), .val (.int va), .val (.int vb), .val (.int (2 : Int32)), .val (.long D0), .second, .val (.long D1), .second, .val (.long D2), .second, .val (.double xa), .second, .val (.double xb), .second, .val (.double xc), .second, .val (.ref o1), .val (.ref o3), .val (.ref o5), .val (.ref nb6), .unset, .unset] [(.double xb), (.ref o3), (.ref nb6)])
    have f76 := (Fy3.keep Kq5 nin0)
    have f77 := (Fld.ext E6 f76)
    have f79 := (Eo3.keep Kq5)
    have ne78 : o3 ≠ nb6 := (Nat.ne_of_lt (Nat.lt_of_lt_of_le f79.lt (Nat.le_of_eq g6.symm)))
    have f80 := (f77.keep Kq7 (ninS ne78 nin0))
    have f82 := (Exa.ext E6 f79)
    have ne81 : o3 ≠ tb7 := (Nat.ne_of_lt (Nat.lt_of_lt_of_le f82.lt gb7))
    have ne83 : o3 ≠ ta7 := (Nat.ne_of_lt (Nat.lt_of_lt_of_le f82.lt ga7))
    have f84 := (f80.keep Kq74 (ninS ne78 (ninS ne83 (ninS ne81 nin0))))
    have f85 := (Fm3.keep Kq5 nin0)
    have f86 := (Fld.ext E6 f85)
    have f87 := (f86.keep Kq7 (ninS ne78 nin0))
    have f88 := (f87.keep Kq74 (ninS ne78 (ninS ne83 (ninS ne81 nin0))))
    have f89 := (Fd3.keep Kq5 nin0)
    have f90 := (Fld.ext E6 f89)
    have f91 := (f90.keep Kq7 (ninS ne78 nin0))
    have f92 := (f91.keep Kq74 (ninS ne78 (ninS ne83 (ninS ne81 nin0))))
    have f93 := (f71.keep Kq74 (allS g_nb6 (allS g_ta7 (allS g_tb7 all0))))
    have f94 := (f82.keep Kq7)
    have f95 := (f94.keep Kq74)
    obtain ⟨cq97, kq97, q97a, q97b, q97c⟩ := isOf hZ rfl Eq74
    refine own_callV X74 hx (y := (⟨"com/example/hebelwerk/hebelwerk/engine/DatedValues$Builder", "add", "(Ljava/time/LocalDate;D)V"⟩ : MethodName)) (z := (⟨"com/example/hebelwerk/hebelwerk/engine/DatedValues$Builder", "add", "(Ljava/time/LocalDate;D)V"⟩ : MethodName)) hown (mvT hZ (hw _ (List.mem_of_getElem? (i := 124) rfl))) (mvT hZ (hw _ (List.mem_of_getElem? (i := 125) rfl))) (notFace_of_selects (args := #[]) (mvT hZ (hw _ (List.mem_of_getElem? (i := 127) rfl)))) (mvT hZ (hw _ (List.mem_of_getElem? (i := 127) rfl))) (mvT hZ (hw _ (List.mem_of_getElem? (i := 126) rfl))) (by decide) (backOf (W := 0) (rmAD1 l Z a0 hw [] nb6 ta7 tb7 ka7 kb7 o3 y3 mo3 kd3 D1 xb D0 (0 : Int64) (0 : Int64) xa (0 : UInt64) (0 : UInt64) cf rg iso T74.heap n0 (Nat.le_trans Z0 K74.1) f93 SEp Ecf Frg Erg Fmn Fmx SIn Eis g_nb6 g_ta7 g_tb7 Eq74 Fd74 Fv74 Fs74 Aa74 Ab74 f95 f84 f88 f92 hD3 (own_b1' d_D0 d_D1) d_xb d_D1.1) hZ (hw _ (List.mem_of_getElem? (i := 128) rfl)) (hw _ (List.mem_of_getElem? (i := 70) rfl)) (by decide) (by decide)) q97a q97c (g := (mkF m 112 #[.val (.int nn), .val (.long dd), .second, .val (.int ga), .val (.int gb), .val (.int va), .val (.int vb), .val (.int (2 : Int32)), .val (.long D0), .second, .val (.long D1), .second, .val (.long D2), .second, .val (.double xa), .second, .val (.double xb), .second, .val (.double xc), .second, .val (.ref o1), .val (.ref o3), .val (.ref o5), .val (.ref nb6), .unset, .unset] [(.double xb), (.ref o3), (.ref nb6)])) rfl (by rw [hml]; rfl) (argsL := [(.ref o3), (.double xb)]) (rest := []) (lenOf pd_16 rfl) rfl (by show 2 * 0 + _ ≤ _; exact Nat.le_of_eq rfl) (hb hby at_112) rfl rfl (by decide) (by decide) ?_
    rintro v96 T96 L96 X96 ⟨rfl, Nq96, Kq96, Eq96, Fd96, Fv96, Fs96, Aa96, Ab96⟩
    have N96 := Fr.app N74 Nq96
    have K96 : Keep h0 T96.heap [] := K74.trans Kq96 (allS (Or.inr sz_nb6) (allS (Or.inr sz_ta7) (allS (Or.inr sz_tb7) all0)))
    show own_Go p e below _ T96 (mkF m 115 #[.val (.int nn), .val (.long dd), .second, .val (.int ga), .val (.int gb), .val (.int va), .val (.int vb), .val (.int (2 : Int32)), .val (.long D0), .second, .val (.long D1), .second, .val (.long D2), .second, .val (.double xa), .second, .val (.double xb), .second, .val (.double xc), .second, .val (.ref o1), .val (.ref o3), .val (.ref o5), .val (.ref nb6), .unset, .unset] [])
    refine own_st (fun t_ k_ => XS.iload X96.here hx rfl (hb hby at_115) rfl k_) ?_
    show own_Go p e below _ T96 (mkF m 117 #[.val (.int nn), .val (.long dd), .second, .val (.int ga), .val (.int gb), .val (.int va), .val (.int vb), .val (.int (2 : Int32)), .val (.long D0), .second, .val (.long D1), .second, .val (.long D2), .second, .val (.double xa), .second, .val (.double xb), .second, .val (.double xc), .second, .val (.ref o1), .val (.ref o3), .val (.ref o5), .val (.ref nb6), .unset, .unset] [(.int (2 : Int32))])
    refine own_st (fun t_ k_ => XS.iconst X96.here hx rfl (hb hby at_117) k_) ?_
    show own_Go p e below _ T96 (mkF m 118 #[.val (.int nn), .val (.long dd), .second, .val (.int ga), .val (.int gb), .val (.int va), .val (.int vb), .val (.int (2 : Int32)), .val (.long D0), .second, .val (.long D1), .second, .val (.long D2), .second, .val (.double xa), .second, .val (.double xb), .second, .val (.double xc), .second, .val (.ref o1), .val (.ref o3), .val (.ref o5), .val (.ref nb6), .unset, .unset] [(.int (3 : Int32)), (.int (2 : Int32))])
    refine own_st (fun t_ k_ => XS.icmpYes X96.here hx rfl (pc0 := 118) (pc' := 130) rfl (hb hby at_118) rfl (by decide) (by decide) (by decide) k_) ?_
    show own_Go p e below _ T96 (mkF m 130 #[.val (.int nn), .val (.long dd), .second, .val (.int ga), .val (.int gb), .val (.int va), .val (.int vb), .val (.int (2 : Int32)), .val (.long D0), .second, .val (.long D1), .second, .val (.long D2), .second, .val (.double xa), .second, .val (.double xb), .second, .val (.double xc), .second, .val (.ref o1), .val (.ref o3), .val (.ref o5), .val (.ref nb6), .unset, .unset] [])
    refine own_st (fun t_ k_ => XS.aload X96.here hx rfl (hb hby at_130) rfl rfl k_) ?_
    show own_Go p e below _ T96 (mkF m 132 #[.val (.int nn), .val (.long dd), .second, .val (.int ga), .val (.int gb), .val (.int va), .val (.int vb), .val (.int (2 : Int32)), .val (.long D0), .second, .val (.long D1), .second, .val (.long D2), .second, .val (.double xa), .second, .val (.double xb), .second, .val (.double xc), .second, .val (.ref o1), .val (.ref o3), .val (.ref o5), .val (.ref nb6), .unset, .unset] [(.ref nb6)])
    obtain ⟨cq99, kq99, q99a, q99b, q99c⟩ := isOf hZ rfl Eq96
    refine own_callV X96 hx (y := (⟨"com/example/hebelwerk/hebelwerk/engine/DatedValues$Builder", "build", "()Lcom/example/hebelwerk/hebelwerk/engine/DatedValues;"⟩ : MethodName)) (z := (⟨"com/example/hebelwerk/hebelwerk/engine/DatedValues$Builder", "build", "()Lcom/example/hebelwerk/hebelwerk/engine/DatedValues;"⟩ : MethodName)) hown (mvT hZ (hw _ (List.mem_of_getElem? (i := 81) rfl))) (mvT hZ (hw _ (List.mem_of_getElem? (i := 82) rfl))) (notFace_of_selects (args := #[]) (mvT hZ (hw _ (List.mem_of_getElem? (i := 84) rfl)))) (mvT hZ (hw _ (List.mem_of_getElem? (i := 84) rfl))) (mvT hZ (hw _ (List.mem_of_getElem? (i := 83) rfl))) (by decide) (backOf (W := 0) (rmBD2 l Z a0 hw [] nb6 ta7 tb7 ka7 kb7 D0 D1 (0 : Int64) xa xb (0 : UInt64) T96.heap n0 (Nat.le_trans Z0 K96.1) Eq96 Fd96 Fv96 Fs96 Aa96 Ab96) hZ (hw _ (List.mem_of_getElem? (i := 85) rfl)) (hw _ (List.mem_of_getElem? (i := 70) rfl)) (by decide) (by decide)) q99a q99c (g := (mkF m 132 #[.val (.int nn), .val (.long dd), .second, .val (.int ga), .val (.int gb), .val (.int va), .val (.int vb), .val (.int (2 : Int32)), .val (.long D0), .second, .val (.long D1), .second, .val (.long D2), .second, .val (.double xa), .second, .val (.double xb), .second, .val (.double xc), .second, .val (.ref o1), .val (.ref o3), .val (.ref o5), .val (.ref nb6), .unset, .unset] [(.ref nb6)])) rfl (by rw [hml]; rfl) (argsL := []) (rest := []) (lenOf pd_14 rfl) rfl (by show 2 * 0 + _ ≤ _; exact Nat.le_of_eq rfl) (hb hby at_132) rfl rfl (by decide) (by decide) ?_
    rintro v98 T98 L98 X98 ⟨o98, ta98, tb98, ka98, kb98, rfl, Nq98, Kq98, Eo98, Fd98, Fv98, Aa98, Ab98⟩
    have N98 := Fr.app N96 Nq98
    have K98 : Keep h0 T98.heap [] := K96.trans Kq98 all0
    show own_Go p e below _ T98 (mkF m 135 #[.val (.int nn), .val (.long dd), .second, .val (.int ga), .val (.int gb), .val (.int va), .val (.int vb), .val (.int (2 : Int32)), .val (.long D0), .second, .val (.long D1), .second, .val (.long D2), .second, .val (.double xa), .second, .val (.double xb), .second, .val (.double xc), .second, .val (.ref o1), .val (.ref o3), .val (.ref o5), .val (.ref nb6), .unset, .unset] [(.ref o98)])
    refine own_st (fun t_ k_ => XS.astore X98.here hx rfl (hb hby at_135) rfl rfl (l' := #[.val (.int nn), .val (.long dd), .second, .val (.int ga), .val (.int gb), .val (.int va), .val (.int vb), .val (.int (2 : Int32)), .val (.long D0), .second, .val (.long D1), .second, .val (.long D2), .second, .val (.double xa), .second, .val (.double xb), .second, .val (.double xc), .second, .val (.ref o1), .val (.ref o3), .val (.ref o5), .val (.ref nb6), .val (.ref o98), .unset]) rfl k_) ?_
    show own_Go p e below _ T98 (mkF m 137 #[.val (.int nn), .val (.long dd), .second, .val (.int ga), .val (.int gb), .val (.int va), .val (.int vb), .val (.int (2 : Int32)), .val (.long D0), .second, .val (.long D1), .second, .val (.long D2), .second, .val (.double xa), .second, .val (.double xb), .second, .val (.double xc), .second, .val (.ref o1), .val (.ref o3), .val (.ref o5), .val (.ref nb6), .val (.ref o98), .unset] [])
    refine own_st (fun t_ k_ => XS.aload X98.here hx rfl (hb hby at_137) rfl rfl k_) ?_
    show own_Go p e below _ T98 (mkF m 139 #[.val (.int nn), .val (.long dd), .second, .val (.int ga), .val (.int gb), .val (.int va), .val (.int vb), .val (.int (2 : Int32)), .val (.long D0), .second, .val (.long D1), .second, .val (.long D2), .second, .val (.double xa), .second, .val (.double xb), .second, .val (.double xc), .second, .val (.ref o1), .val (.ref o3), .val (.ref o5), .val (.ref nb6), .val (.ref o98), .unset] [(.ref o98)])
    obtain ⟨cq101, kq101, q101a, q101b, q101c⟩ := isOf hZ rfl Eo98
    refine own_callV X98 hx (y := (⟨"com/example/hebelwerk/hebelwerk/engine/DatedValues", "size", "()I"⟩ : MethodName)) (z := (⟨"com/example/hebelwerk/hebelwerk/engine/DatedValues", "size", "()I"⟩ : MethodName)) hown (mvT hZ (hw _ (List.mem_of_getElem? (i := 114) rfl))) (mvT hZ (hw _ (List.mem_of_getElem? (i := 115) rfl))) (notFace_of_selects (args := #[]) (mvT hZ (hw _ (List.mem_of_getElem? (i := 117) rfl)))) (mvT hZ (hw _ (List.mem_of_getElem? (i := 117) rfl))) (mvT hZ (hw _ (List.mem_of_getElem? (i := 116) rfl))) (by decide) (backOf (W := 0) (rmSI2 l Z a0 hw [] o98 ta98 ka98 D0 D1 T98.heap n0 (Nat.le_trans Z0 K98.1) Fd98 Aa98) hZ (hw _ (List.mem_of_getElem? (i := 118) rfl)) (hw _ (List.mem_of_getElem? (i := 88) rfl)) (by decide) (by decide)) q101a q101c (g := (mkF m 139 #[.val (.int nn), .val (.long dd), .second, .val (.int ga), .val (.int gb), .val (.int va), .val (.int vb), .val (.int (2 : Int32)), .val (.long D0), .second, .val (.long D1), .second, .val (.long D2), .second, .val (.double xa), .second, .val (.double xb), .second, .val (.double xc), .second, .val (.ref o1), .val (.ref o3), .val (.ref o5), .val (.ref nb6), .val (.ref o98), .unset] [(.ref o98)])) rfl (by rw [hml]; rfl) (argsL := []) (rest := []) (lenOf pd_15 rfl) rfl (by show 2 * 0 + _ ≤ _; exact Nat.le_of_eq rfl) (hb hby at_139) rfl rfl (by decide) (by decide) ?_
    rintro v100 T100 L100 X100 ⟨rfl, Nq100, hh100⟩
    have N100 := Fr.app N98 Nq100
    show own_Go p e below _ T100 (mkF m 142 #[.val (.int nn), .val (.long dd), .second, .val (.int ga), .val (.int gb), .val (.int va), .val (.int vb), .val (.int (2 : Int32)), .val (.long D0), .second, .val (.long D1), .second, .val (.long D2), .second, .val (.double xa), .second, .val (.double xb), .second, .val (.double xc), .second, .val (.ref o1), .val (.ref o3), .val (.ref o5), .val (.ref nb6), .val (.ref o98), .unset] [(.int (2 : Int32))])
    refine own_st (fun t_ k_ => XS.iload X100.here hx rfl (hb hby at_142) rfl k_) ?_
    show own_Go p e below _ T100 (mkF m 144 #[.val (.int nn), .val (.long dd), .second, .val (.int ga), .val (.int gb), .val (.int va), .val (.int vb), .val (.int (2 : Int32)), .val (.long D0), .second, .val (.long D1), .second, .val (.long D2), .second, .val (.double xa), .second, .val (.double xb), .second, .val (.double xc), .second, .val (.ref o1), .val (.ref o3), .val (.ref o5), .val (.ref nb6), .val (.ref o98), .unset] [(.int (2 : Int32)), (.int (2 : Int32))])
    refine own_st (fun t_ k_ => XS.icmpNo X100.here hx rfl (hb hby at_144) rfl (by decide) k_) ?_
    show own_Go p e below _ T100 (mkF m 147 #[.val (.int nn), .val (.long dd), .second, .val (.int ga), .val (.int gb), .val (.int va), .val (.int vb), .val (.int (2 : Int32)), .val (.long D0), .second, .val (.long D1), .second, .val (.long D2), .second, .val (.double xa), .second, .val (.double xb), .second, .val (.double xc), .second, .val (.ref o1), .val (.ref o3), .val (.ref o5), .val (.ref nb6), .val (.ref o98), .unset] [])
    refine own_st (fun t_ k_ => XS.aload X100.here hx rfl (hb hby at_147) rfl rfl k_) ?_
    show own_Go p e below _ T100 (mkF m 149 #[.val (.int nn), .val (.long dd), .second, .val (.int ga), .val (.int gb), .val (.int va), .val (.int vb), .val (.int (2 : Int32)), .val (.long D0), .second, .val (.long D1), .second, .val (.long D2), .second, .val (.double xa), .second, .val (.double xb), .second, .val (.double xc), .second, .val (.ref o1), .val (.ref o3), .val (.ref o5), .val (.ref nb6), .val (.ref o98), .unset] [(.ref o98)])
    obtain ⟨cq103, kq103, q103a, q103b, q103c⟩ := isOf hZ hh100 Eo98
    refine own_callV X100 hx (y := (⟨"com/example/hebelwerk/hebelwerk/engine/DatedValues", "isEmpty", "()Z"⟩ : MethodName)) (z := (⟨"com/example/hebelwerk/hebelwerk/engine/DatedValues", "isEmpty", "()Z"⟩ : MethodName)) hown (mvT hZ (hw _ (List.mem_of_getElem? (i := 119) rfl))) (mvT hZ (hw _ (List.mem_of_getElem? (i := 120) rfl))) (notFace_of_selects (args := #[]) (mvT hZ (hw _ (List.mem_of_getElem? (i := 122) rfl)))) (mvT hZ (hw _ (List.mem_of_getElem? (i := 122) rfl))) (mvT hZ (hw _ (List.mem_of_getElem? (i := 121) rfl))) (by decide) (backOf (W := 0) (rmIS2 l Z a0 hw [] o98 ta98 ka98 D0 D1 T98.heap n0 (Nat.le_trans Z0 K98.1) Fd98 Aa98) hZ (hw _ (List.mem_of_getElem? (i := 123) rfl)) (hw _ (List.mem_of_getElem? (i := 88) rfl)) (by decide) (by decide)) q103a q103c (g := (mkF m 149 #[.val (.int nn), .val (.long dd), .second, .val (.int ga), .val (.int gb), .val (.int va), .val (.int vb), .val (.int (2 : Int32)), .val (.long D0), .second, .val (.long D1), .second, .val (.long D2), .second, .val (.double xa), .second, .val (.double xb), .second, .val (.double xc), .second, .val (.ref o1), .val (.ref o3), .val (.ref o5), .val (.ref nb6), .val (.ref o98), .unset] [(.ref o98)])) rfl (by rw [hml]; rfl) (argsL := []) (rest := []) (lenOf pd_6 rfl) rfl (by show 2 * 0 + _ ≤ _; exact Nat.le_of_eq rfl) (hb hby at_149) rfl hh100 (by decide) (by decide) ?_
    rintro v102 T102 L102 X102 ⟨rfl, Nq102, hh102⟩
    have N102 := Fr.app N100 Nq102
    show own_Go p e below _ T102 (mkF m 152 #[.val (.int nn), .val (.long dd), .second, .val (.int ga), .val (.int gb), .val (.int va), .val (.int vb), .val (.int (2 : Int32)), .val (.long D0), .second, .val (.long D1), .second, .val (.long D2), .second, .val (.double xa), .second, .val (.double xb), .second, .val (.double xc), .second, .val (.ref o1), .val (.ref o3), .val (.ref o5), .val (.ref nb6), .val (.ref o98), .unset] [(.int (0 : Int32))])
    refine own_st (fun t_ k_ => XS.iload X102.here hx rfl (hb hby at_152) rfl k_) ?_
    show own_Go p e below _ T102 (mkF m 154 #[.val (.int nn), .val (.long dd), .second, .val (.int ga), .val (.int gb), .val (.int va), .val (.int vb), .val (.int (2 : Int32)), .val (.long D0), .second, .val (.long D1), .second, .val (.long D2), .second, .val (.double xa), .second, .val (.double xb), .second, .val (.double xc), .second, .val (.ref o1), .val (.ref o3), .val (.ref o5), .val (.ref nb6), .val (.ref o98), .unset] [(.int (2 : Int32)), (.int (0 : Int32))])
    refine own_st (fun t_ k_ => XS.ifYes X102.here hx rfl (pc0 := 154) (pc' := 161) rfl (hb hby at_154) rfl (by decide) (by decide) (by decide) k_) ?_
    show own_Go p e below _ T102 (mkF m 161 #[.val (.int nn), .val (.long dd), .second, .val (.int ga), .val (.int gb), .val (.int va), .val (.int vb), .val (.int (2 : Int32)), .val (.long D0), .second, .val (.long D1), .second, .val (.long D2), .second, .val (.double xa), .second, .val (.double xb), .second, .val (.double xc), .second, .val (.ref o1), .val (.ref o3), .val (.ref o5), .val (.ref nb6), .val (.ref o98), .unset] [(.int (0 : Int32))])
    refine own_st (fun t_ k_ => XS.iconst X102.here hx rfl (hb hby at_161) k_) ?_
    show own_Go p e below _ T102 (mkF m 162 #[.val (.int nn), .val (.long dd), .second, .val (.int ga), .val (.int gb), .val (.int va), .val (.int vb), .val (.int (2 : Int32)), .val (.long D0), .second, .val (.long D1), .second, .val (.long D2), .second, .val (.double xa), .second, .val (.double xb), .second, .val (.double xc), .second, .val (.ref o1), .val (.ref o3), .val (.ref o5), .val (.ref nb6), .val (.ref o98), .unset] [(.int (0 : Int32)), (.int (0 : Int32))])
    refine own_st (fun t_ k_ => XS.icmpNo X102.here hx rfl (hb hby at_162) rfl (by decide) k_) ?_
    show own_Go p e below _ T102 (mkF m 165 #[.val (.int nn), .val (.long dd), .second, .val (.int ga), .val (.int gb), .val (.int va), .val (.int vb), .val (.int (2 : Int32)), .val (.long D0), .second, .val (.long D1), .second, .val (.long D2), .second, .val (.double xa), .second, .val (.double xb), .second, .val (.double xc), .second, .val (.ref o1), .val (.ref o3), .val (.ref o5), .val (.ref nb6), .val (.ref o98), .unset] [])
    refine own_st (fun t_ k_ => XS.iconst X102.here hx rfl (hb hby at_165) k_) ?_
    show own_Go p e below _ T102 (mkF m 166 #[.val (.int nn), .val (.long dd), .second, .val (.int ga), .val (.int gb), .val (.int va), .val (.int vb), .val (.int (2 : Int32)), .val (.long D0), .second, .val (.long D1), .second, .val (.long D2), .second, .val (.double xa), .second, .val (.double xb), .second, .val (.double xc), .second, .val (.ref o1), .val (.ref o3), .val (.ref o5), .val (.ref nb6), .val (.ref o98), .unset] [(.int (1 : Int32))])
    refine own_st (fun t_ k_ => XS.goto X102.here hx rfl (pc0 := 166) (pc' := 170) rfl (hb hby at_166) (by decide) (by decide) k_) ?_
    show own_Go p e below _ T102 (mkF m 170 #[.val (.int nn), .val (.long dd), .second, .val (.int ga), .val (.int gb), .val (.int va), .val (.int vb), .val (.int (2 : Int32)), .val (.long D0), .second, .val (.long D1), .second, .val (.long D2), .second, .val (.double xa), .second, .val (.double xb), .second, .val (.double xc), .second, .val (.ref o1), .val (.ref o3), .val (.ref o5), .val (.ref nb6), .val (.ref o98), .unset] [(.int (1 : Int32))])
    refine own_st (fun t_ k_ => XS.istore X102.here hx rfl (hb hby at_170) rfl (l' := #[.val (.int nn), .val (.long dd), .second, .val (.int ga), .val (.int gb), .val (.int va), .val (.int vb), .val (.int (2 : Int32)), .val (.long D0), .second, .val (.long D1), .second, .val (.long D2), .second, .val (.double xa), .second, .val (.double xb), .second, .val (.double xc), .second, .val (.ref o1), .val (.ref o3), .val (.ref o5), .val (.ref nb6), .val (.ref o98), .val (.int (1 : Int32))]) rfl k_) ?_
    show own_Go p e below _ T102 (mkF m 172 #[.val (.int nn), .val (.long dd), .second, .val (.int ga), .val (.int gb), .val (.int va), .val (.int vb), .val (.int (2 : Int32)), .val (.long D0), .second, .val (.long D1), .second, .val (.long D2), .second, .val (.double xa), .second, .val (.double xb), .second, .val (.double xc), .second, .val (.ref o1), .val (.ref o3), .val (.ref o5), .val (.ref nb6), .val (.ref o98), .val (.int (1 : Int32))] [])
    refine own_st (fun t_ k_ => XS.iload X102.here hx rfl (hb hby at_172) rfl k_) ?_
    show own_Go p e below _ T102 (mkF m 174 #[.val (.int nn), .val (.long dd), .second, .val (.int ga), .val (.int gb), .val (.int va), .val (.int vb), .val (.int (2 : Int32)), .val (.long D0), .second, .val (.long D1), .second, .val (.long D2), .second, .val (.double xa), .second, .val (.double xb), .second, .val (.double xc), .second, .val (.ref o1), .val (.ref o3), .val (.ref o5), .val (.ref nb6), .val (.ref o98), .val (.int (1 : Int32))] [(.int (1 : Int32))])
    refine own_st (fun t_ k_ => XS.ifNo X102.here hx rfl (hb hby at_174) rfl (by decide) k_) ?_
    show own_Go p e below _ T102 (mkF m 177 #[.val (.int nn), .val (.long dd), .second, .val (.int ga), .val (.int gb), .val (.int va), .val (.int vb), .val (.int (2 : Int32)), .val (.long D0), .second, .val (.long D1), .second, .val (.long D2), .second, .val (.double xa), .second, .val (.double xb), .second, .val (.double xc), .second, .val (.ref o1), .val (.ref o3), .val (.ref o5), .val (.ref nb6), .val (.ref o98), .val (.int (1 : Int32))] [])
    refine own_st (fun t_ k_ => XS.iload X102.here hx rfl (hb hby at_177) rfl k_) ?_
    show own_Go p e below _ T102 (mkF m 179 #[.val (.int nn), .val (.long dd), .second, .val (.int ga), .val (.int gb), .val (.int va), .val (.int vb), .val (.int (2 : Int32)), .val (.long D0), .second, .val (.long D1), .second, .val (.long D2), .second, .val (.double xa), .second, .val (.double xb), .second, .val (.double xc), .second, .val (.ref o1), .val (.ref o3), .val (.ref o5), .val (.ref nb6), .val (.ref o98), .val (.int (1 : Int32))] [(.int (2 : Int32))])
    refine own_st (fun t_ k_ => XS.iconst X102.here hx rfl (hb hby at_179) k_) ?_
    show own_Go p e below _ T102 (mkF m 180 #[.val (.int nn), .val (.long dd), .second, .val (.int ga), .val (.int gb), .val (.int va), .val (.int vb), .val (.int (2 : Int32)), .val (.long D0), .second, .val (.long D1), .second, .val (.long D2), .second, .val (.double xa), .second, .val (.double xb), .second, .val (.double xc), .second, .val (.ref o1), .val (.ref o3), .val (.ref o5), .val (.ref nb6), .val (.ref o98), .val (.int (1 : Int32))] [(.int (1 : Int32)), (.int (2 : Int32))])
    refine own_st (fun t_ k_ => XS.icmpNo X102.here hx rfl (hb hby at_180) rfl (by decide) k_) ?_
    show own_Go p e below _ T102 (mkF m 183 #[.val (.int nn), .val (.long dd), .second, .val (.int ga), .val (.int gb), .val (.int va), .val (.int vb), .val (.int (2 : Int32)), .val (.long D0), .second, .val (.long D1), .second, .val (.long D2), .second, .val (.double xa), .second, .val (.double xb), .second, .val (.double xc), .second, .val (.ref o1), .val (.ref o3), .val (.ref o5), .val (.ref nb6), .val (.ref o98), .val (.int (1 : Int32))] [])
    refine own_st (fun t_ k_ => XS.aload X102.here hx rfl (hb hby at_183) rfl rfl k_) ?_
    show own_Go p e below _ T102 (mkF m 185 #[.val (.int nn), .val (.long dd), .second, .val (.int ga), .val (.int gb), .val (.int va), .val (.int vb), .val (.int (2 : Int32)), .val (.long D0), .second, .val (.long D1), .second, .val (.long D2), .second, .val (.double xa), .second, .val (.double xb), .second, .val (.double xc), .second, .val (.ref o1), .val (.ref o3), .val (.ref o5), .val (.ref nb6), .val (.ref o98), .val (.int (1 : Int32))] [(.ref o98)])
    refine own_st (fun t_ k_ => XS.iconst X102.here hx rfl (hb hby at_185) k_) ?_
    show own_Go p e below _ T102 (mkF m 186 #[.val (.int nn), .val (.long dd), .second, .val (.int ga), .val (.int gb), .val (.int va), .val (.int vb), .val (.int (2 : Int32)), .val (.long D0), .second, .val (.long D1), .second, .val (.long D2), .second, .val (.double xa), .second, .val (.double xb), .second, .val (.double xc), .second, .val (.ref o1), .val (.ref o3), .val (.ref o5), .val (.ref nb6), .val (.ref o98), .val (.int (1 : Int32))] [(.int (0 : Int32)), (.ref o98)])
    have f104 := (f93.keep Kq96 (allS g_nb6 (allS g_ta7 (allS g_tb7 all0))))
    have f105 := (f104.keep Kq98 all0)
    obtain ⟨cq107, kq107, q107a, q107b, q107c⟩ := isOf hZ hh102 Eo98
    refine own_callV X102 hx (y := (⟨"com/example/hebelwerk/hebelwerk/engine/DatedValues", "date", "(I)Ljava/time/LocalDate;"⟩ : MethodName)) (z := (⟨"com/example/hebelwerk/hebelwerk/engine/DatedValues", "date", "(I)Ljava/time/LocalDate;"⟩ : MethodName)) hown (mvT hZ (hw _ (List.mem_of_getElem? (i := 149) rfl))) (mvT hZ (hw _ (List.mem_of_getElem? (i := 150) rfl))) (notFace_of_selects (args := #[]) (mvT hZ (hw _ (List.mem_of_getElem? (i := 152) rfl)))) (mvT hZ (hw _ (List.mem_of_getElem? (i := 152) rfl))) (mvT hZ (hw _ (List.mem_of_getElem? (i := 151) rfl))) (by decide) (backOf (W := 0) (rmDT20 l Z a0 hw [] o98 ta98 ka98 D0 D1 cf rg iso T98.heap n0 (Nat.le_trans Z0 K98.1) f105 SEp Ecf Frg Erg Fmn Fmx SIn Eis Fd98 Aa98 (own_b0 d_D0)) hZ (hw _ (List.mem_of_getElem? (i := 153) rfl)) (hw _ (List.mem_of_getElem? (i := 88) rfl)) (by decide) (by decide)) q107a q107c (g := (mkF m 186 #[.val (.int nn), .val (.long dd), .second, .val (.int ga), .val (.int gb), .val (.int va), .val (.int vb), .val (.int (2 : Int32)), .val (.long D0), .second, .val (.long D1), .second, .val (.long D2), .second, .val (.double xa), .second, .val (.double xb), .second, .val (.double xc), .second, .val (.ref o1), .val (.ref o3), .val (.ref o5), .val (.ref nb6), .val (.ref o98), .val (.int (1 : Int32))] [(.int (0 : Int32)), (.ref o98)])) rfl (by rw [hml]; rfl) (argsL := [(.int (0 : Int32))]) (rest := []) (lenOf pd_17 rfl) rfl (by show 2 * 0 + _ ≤ _; exact Nat.le_of_eq rfl) (hb hby at_186) rfl hh102 (by decide) (by decide) ?_
    rintro v106 T106 L106 X106 ⟨o106, y106, mo106, kd106, rfl, Nq106, Kq106, go106, g_o106, Eo106, Fy106, Fm106, Fd106, hD106⟩
    have N106 := Fr.app N102 Nq106
    have K106 : Keep h0 T106.heap [] := K98.trans Kq106 all0
    have sz_o106 : h0.size ≤ o106 := Nat.le_trans K98.1 go106
    show own_Go p e below _ T106 (mkF m 189 #[.val (.int nn), .val (.long dd), .second, .val (.int ga), .val (.int gb), .val (.int va), .val (.int vb), .val (.int (2 : Int32)), .val (.long D0), .second, .val (.long D1), .second, .val (.long D2), .second, .val (.double xa), .second, .val (.double xb), .second, .val (.double xc), .second, .val (.ref o1), .val (.ref o3), .val (.ref o5), .val (.ref nb6), .val (.ref o98), .val (.int (1 : Int32))] [(.ref o106)])
    have f108 := (f105.keep Kq106 all0)
    obtain ⟨cq110, kq110, q110a, q110b, q110c⟩ := isOf hZ rfl Eo106
    refine own_callV X106 hx (y := (⟨"java/time/LocalDate", "toEpochDay", "()J"⟩ : MethodName)) (z := (⟨"java/time/LocalDate", "toEpochDay", "()J"⟩ : MethodName)) hown (mvT hZ (hw _ (List.mem_of_getElem? (i := 155) rfl))) (mvT hZ (hw _ (List.mem_of_getElem? (i := 130) rfl))) (notFace_of_selects (args := #[]) (mvT hZ (hw _ (List.mem_of_getElem? (i := 132) rfl)))) (mvT hZ (hw _ (List.mem_of_getElem? (i := 132) rfl))) (mvT hZ (hw _ (List.mem_of_getElem? (i := 131) rfl))) (by decide) (backOf (W := 0) (rmTE l Z a0 hw [] o106 y106 mo106 kd106 D0 cf rg iso T106.heap n0 (Nat.le_trans Z0 K106.1) f108 SEp Ecf Frg Erg Fmn Fmx SIn Eis Eo106 Fy106 Fm106 Fd106 hD106 (own_b0 d_D0)) hZ (hw _ (List.mem_of_getElem? (i := 133) rfl)) (hw _ (List.mem_of_getElem? (i := 4) rfl)) (by decide) (by decide)) q110a q110c (g := (mkF m 189 #[.val (.int nn), .val (.long dd), .second, .val (.int ga), .val (.int gb), .val (.int va), .val (.int vb), .val (.int (2 : Int32)), .val (.long D0), .second, .val (.long D1), .second, .val (.long D2), .second, .val (.double xa), .second, .val (.double xb), .second, .val (.double xc), .second, .val (.ref o1), .val (.ref o3), .val (.ref o5), .val (.ref nb6), .val (.ref o98), .val (.int (1 : Int32))] [(.ref o106)])) rfl (by rw [hml]; rfl) (argsL := []) (rest := []) (lenOf pd_0 rfl) rfl (by show 2 * 0 + _ ≤ _; exact Nat.le_of_eq rfl) (hb hby at_189) rfl rfl (by decide) (by decide) ?_
    rintro v109 T109 L109 X109 ⟨rfl, Nq109, hh109⟩
    have N109 := Fr.app N106 Nq109
    show own_Go p e below _ T109 (mkF m 192 #[.val (.int nn), .val (.long dd), .second, .val (.int ga), .val (.int gb), .val (.int va), .val (.int vb), .val (.int (2 : Int32)), .val (.long D0), .second, .val (.long D1), .second, .val (.long D2), .second, .val (.double xa), .second, .val (.double xb), .second, .val (.double xc), .second, .val (.ref o1), .val (.ref o3), .val (.ref o5), .val (.ref nb6), .val (.ref o98), .val (.int (1 : Int32))] [(.long D0)])
    refine own_st (fun t_ k_ => XS.lload X109.here hx rfl (hb hby at_192) rfl k_) ?_
    show own_Go p e below _ T109 (mkF m 194 #[.val (.int nn), .val (.long dd), .second, .val (.int ga), .val (.int gb), .val (.int va), .val (.int vb), .val (.int (2 : Int32)), .val (.long D0), .second, .val (.long D1), .second, .val (.long D2), .second, .val (.double xa), .second, .val (.double xb), .second, .val (.double xc), .second, .val (.ref o1), .val (.ref o3), .val (.ref o5), .val (.ref nb6), .val (.ref o98), .val (.int (1 : Int32))] [(.long D0), (.long D0)])
    refine own_st (fun t_ k_ => XS.lcmp X109.here hx rfl (hb hby at_194) rfl k_) ?_
    show own_Go p e below _ T109 (mkF m 195 #[.val (.int nn), .val (.long dd), .second, .val (.int ga), .val (.int gb), .val (.int va), .val (.int vb), .val (.int (2 : Int32)), .val (.long D0), .second, .val (.long D1), .second, .val (.long D2), .second, .val (.double xa), .second, .val (.double xb), .second, .val (.double xc), .second, .val (.ref o1), .val (.ref o3), .val (.ref o5), .val (.ref nb6), .val (.ref o98), .val (.int (1 : Int32))] [(.int (lcmpW D0 D0))])
    refine own_st (fun t_ k_ => XS.ifNo X109.here hx rfl (hb hby at_195) rfl ((if0 _ _).trans (teq qD0).2) k_) ?_
    show own_Go p e below _ T109 (mkF m 198 #[.val (.int nn), .val (.long dd), .second, .val (.int ga), .val (.int gb), .val (.int va), .val (.int vb), .val (.int (2 : Int32)), .val (.long D0), .second, .val (.long D1), .second, .val (.long D2), .second, .val (.double xa), .second, .val (.double xb), .second, .val (.double xc), .second, .val (.ref o1), .val (.ref o3), .val (.ref o5), .val (.ref nb6), .val (.ref o98), .val (.int (1 : Int32))] [])
    refine own_st (fun t_ k_ => XS.aload X109.here hx rfl (hb hby at_198) rfl rfl k_) ?_
    show own_Go p e below _ T109 (mkF m 200 #[.val (.int nn), .val (.long dd), .second, .val (.int ga), .val (.int gb), .val (.int va), .val (.int vb), .val (.int (2 : Int32)), .val (.long D0), .second, .val (.long D1), .second, .val (.long D2), .second, .val (.double xa), .second, .val (.double xb), .second, .val (.double xc), .second, .val (.ref o1), .val (.ref o3), .val (.ref o5), .val (.ref nb6), .val (.ref o98), .val (.int (1 : Int32))] [(.ref o98)])
    refine own_st (fun t_ k_ => XS.iconst X109.here hx rfl (hb hby at_200) k_) ?_
    show own_Go p e below _ T109 (mkF m 201 #[.val (.int nn), .val (.long dd), .second, .val (.int ga), .val (.int gb), .val (.int va), .val (.int vb), .val (.int (2 : Int32)), .val (.long D0), .second, .val (.long D1), .second, .val (.long D2), .second, .val (.double xa), .second, .val (.double xb), .second, .val (.double xc), .second, .val (.ref o1), .val (.ref o3), .val (.ref o5), .val (.ref nb6), .val (.ref o98), .val (.int (1 : Int32))] [(.int (0 : Int32)), (.ref o98)])
    have f111 := (Fv98.keep Kq106 nin0)
    have f112 := (Ab98.keep Kq106 nin0)
    have f115 := (Eo98.keep Kq106)
    obtain ⟨cq114, kq114, q114a, q114b, q114c⟩ := isOf hZ hh109 f115
    refine own_callV X109 hx (y := (⟨"com/example/hebelwerk/hebelwerk/engine/DatedValues", "value", "(I)D"⟩ : MethodName)) (z := (⟨"com/example/hebelwerk/hebelwerk/engine/DatedValues", "value", "(I)D"⟩ : MethodName)) hown (mvT hZ (hw _ (List.mem_of_getElem? (i := 156) rfl))) (mvT hZ (hw _ (List.mem_of_getElem? (i := 157) rfl))) (notFace_of_selects (args := #[]) (mvT hZ (hw _ (List.mem_of_getElem? (i := 159) rfl)))) (mvT hZ (hw _ (List.mem_of_getElem? (i := 159) rfl))) (mvT hZ (hw _ (List.mem_of_getElem? (i := 158) rfl))) (by decide) (backOf (W := 0) (rmVL20 l Z a0 hw [] o98 tb98 kb98 xa xb T106.heap n0 (Nat.le_trans Z0 K106.1) f111 f112) hZ (hw _ (List.mem_of_getElem? (i := 160) rfl)) (hw _ (List.mem_of_getElem? (i := 88) rfl)) (by decide) (by decide)) q114a q114c (g := (mkF m 201 #[.val (.int nn), .val (.long dd), .second, .val (.int ga), .val (.int gb), .val (.int va), .val (.int vb), .val (.int (2 : Int32)), .val (.long D0), .second, .val (.long D1), .second, .val (.long D2), .second, .val (.double xa), .second, .val (.double xb), .second, .val (.double xc), .second, .val (.ref o1), .val (.ref o3), .val (.ref o5), .val (.ref nb6), .val (.ref o98), .val (.int (1 : Int32))] [(.int (0 : Int32)), (.ref o98)])) rfl (by rw [hml]; rfl) (argsL := [(.int (0 : Int32))]) (rest := []) (lenOf pd_18 rfl) rfl (by show 2 * 0 + _ ≤ _; exact Nat.le_of_eq rfl) (hb hby at_201) rfl hh109 (by decide) (by decide) ?_
    rintro v113 T113 L113 X113 ⟨rfl, Nq113, hh113⟩
    have N113 := Fr.app N109 Nq113
    show own_Go p e below _ T113 (mkF m 204 #[.val (.int nn), .val (.long dd), .second, .val (.int ga), .val (.int gb), .val (.int va), .val (.int vb), .val (.int (2 : Int32)), .val (.long D0), .second, .val (.long D1), .second, .val (.long D2), .second, .val (.double xa), .second, .val (.double xb), .second, .val (.double xc), .second, .val (.ref o1), .val (.ref o3), .val (.ref o5), .val (.ref nb6), .val (.ref o98), .val (.int (1 : Int32))] [(.double xa)])
    refine own_st (fun t_ k_ => XS.dload X113.here hx rfl (hb hby at_204) rfl k_) ?_
    show own_Go p e below _ T113 (mkF m 206 #[.val (.int nn), .val (.long dd), .second, .val (.int ga), .val (.int gb), .val (.int va), .val (.int vb), .val (.int (2 : Int32)), .val (.long D0), .second, .val (.long D1), .second, .val (.long D2), .second, .val (.double xa), .second, .val (.double xb), .second, .val (.double xc), .second, .val (.ref o1), .val (.ref o3), .val (.ref o5), .val (.ref nb6), .val (.ref o98), .val (.int (1 : Int32))] [(.double xa), (.double xa)])
    refine own_st (fun t_ k_ => XS.dcmpS X113.here hx rfl (hb hby at_206) rfl (v := (0 : Int32)) (dcmpV_self d_xa.noNaN _) k_) ?_
    show own_Go p e below _ T113 (mkF m 207 #[.val (.int nn), .val (.long dd), .second, .val (.int ga), .val (.int gb), .val (.int va), .val (.int vb), .val (.int (2 : Int32)), .val (.long D0), .second, .val (.long D1), .second, .val (.long D2), .second, .val (.double xa), .second, .val (.double xb), .second, .val (.double xc), .second, .val (.ref o1), .val (.ref o3), .val (.ref o5), .val (.ref nb6), .val (.ref o98), .val (.int (1 : Int32))] [(.int (0 : Int32))])
    refine own_st (fun t_ k_ => XS.ifNo X113.here hx rfl (hb hby at_207) rfl (by decide) k_) ?_
    show own_Go p e below _ T113 (mkF m 210 #[.val (.int nn), .val (.long dd), .second, .val (.int ga), .val (.int gb), .val (.int va), .val (.int vb), .val (.int (2 : Int32)), .val (.long D0), .second, .val (.long D1), .second, .val (.long D2), .second, .val (.double xa), .second, .val (.double xb), .second, .val (.double xc), .second, .val (.ref o1), .val (.ref o3), .val (.ref o5), .val (.ref nb6), .val (.ref o98), .val (.int (1 : Int32))] [])
    refine own_st (fun t_ k_ => XS.iconst X113.here hx rfl (hb hby at_210) k_) ?_
    show own_Go p e below _ T113 (mkF m 211 #[.val (.int nn), .val (.long dd), .second, .val (.int ga), .val (.int gb), .val (.int va), .val (.int vb), .val (.int (2 : Int32)), .val (.long D0), .second, .val (.long D1), .second, .val (.long D2), .second, .val (.double xa), .second, .val (.double xb), .second, .val (.double xc), .second, .val (.ref o1), .val (.ref o3), .val (.ref o5), .val (.ref nb6), .val (.ref o98), .val (.int (1 : Int32))] [(.int (1 : Int32))])
    refine own_st (fun t_ k_ => XS.goto X113.here hx rfl (pc0 := 211) (pc' := 215) rfl (hb hby at_211) (by decide) (by decide) k_) ?_
    show own_Go p e below _ T113 (mkF m 215 #[.val (.int nn), .val (.long dd), .second, .val (.int ga), .val (.int gb), .val (.int va), .val (.int vb), .val (.int (2 : Int32)), .val (.long D0), .second, .val (.long D1), .second, .val (.long D2), .second, .val (.double xa), .second, .val (.double xb), .second, .val (.double xc), .second, .val (.ref o1), .val (.ref o3), .val (.ref o5), .val (.ref nb6), .val (.ref o98), .val (.int (1 : Int32))] [(.int (1 : Int32))])
    refine own_st (fun t_ k_ => XS.istore X113.here hx rfl (hb hby at_215) rfl (l' := #[.val (.int nn), .val (.long dd), .second, .val (.int ga), .val (.int gb), .val (.int va), .val (.int vb), .val (.int (2 : Int32)), .val (.long D0), .second, .val (.long D1), .second, .val (.long D2), .second, .val (.double xa), .second, .val (.double xb), .second, .val (.double xc), .second, .val (.ref o1), .val (.ref o3), .val (.ref o5), .val (.ref nb6), .val (.ref o98), .val (.int (1 : Int32))]) rfl k_) ?_
    show own_Go p e below _ T113 (mkF m 217 #[.val (.int nn), .val (.long dd), .second, .val (.int ga), .val (.int gb), .val (.int va), .val (.int vb), .val (.int (2 : Int32)), .val (.long D0), .second, .val (.long D1), .second, .val (.long D2), .second, .val (.double xa), .second, .val (.double xb), .second, .val (.double xc), .second, .val (.ref o1), .val (.ref o3), .val (.ref o5), .val (.ref nb6), .val (.ref o98), .val (.int (1 : Int32))] [])
    refine own_st (fun t_ k_ => XS.iload X113.here hx rfl (hb hby at_217) rfl k_) ?_
    show own_Go p e below _ T113 (mkF m 219 #[.val (.int nn), .val (.long dd), .second, .val (.int ga), .val (.int gb), .val (.int va), .val (.int vb), .val (.int (2 : Int32)), .val (.long D0), .second, .val (.long D1), .second, .val (.long D2), .second, .val (.double xa), .second, .val (.double xb), .second, .val (.double xc), .second, .val (.ref o1), .val (.ref o3), .val (.ref o5), .val (.ref nb6), .val (.ref o98), .val (.int (1 : Int32))] [(.int (1 : Int32))])
    refine own_st (fun t_ k_ => XS.ifNo X113.here hx rfl (hb hby at_219) rfl (by decide) k_) ?_
    show own_Go p e below _ T113 (mkF m 222 #[.val (.int nn), .val (.long dd), .second, .val (.int ga), .val (.int gb), .val (.int va), .val (.int vb), .val (.int (2 : Int32)), .val (.long D0), .second, .val (.long D1), .second, .val (.long D2), .second, .val (.double xa), .second, .val (.double xb), .second, .val (.double xc), .second, .val (.ref o1), .val (.ref o3), .val (.ref o5), .val (.ref nb6), .val (.ref o98), .val (.int (1 : Int32))] [])
    refine own_st (fun t_ k_ => XS.iload X113.here hx rfl (hb hby at_222) rfl k_) ?_
    show own_Go p e below _ T113 (mkF m 224 #[.val (.int nn), .val (.long dd), .second, .val (.int ga), .val (.int gb), .val (.int va), .val (.int vb), .val (.int (2 : Int32)), .val (.long D0), .second, .val (.long D1), .second, .val (.long D2), .second, .val (.double xa), .second, .val (.double xb), .second, .val (.double xc), .second, .val (.ref o1), .val (.ref o3), .val (.ref o5), .val (.ref nb6), .val (.ref o98), .val (.int (1 : Int32))] [(.int (2 : Int32))])
    refine own_st (fun t_ k_ => XS.iconst X113.here hx rfl (hb hby at_224) k_) ?_
    show own_Go p e below _ T113 (mkF m 225 #[.val (.int nn), .val (.long dd), .second, .val (.int ga), .val (.int gb), .val (.int va), .val (.int vb), .val (.int (2 : Int32)), .val (.long D0), .second, .val (.long D1), .second, .val (.long D2), .second, .val (.double xa), .second, .val (.double xb), .second, .val (.double xc), .second, .val (.ref o1), .val (.ref o3), .val (.ref o5), .val (.ref nb6), .val (.ref o98), .val (.int (1 : Int32))] [(.int (2 : Int32)), (.int (2 : Int32))])
    refine own_st (fun t_ k_ => XS.icmpNo X113.here hx rfl (hb hby at_225) rfl (by decide) k_) ?_
    show own_Go p e below _ T113 (mkF m 228 #[.val (.int nn), .val (.long dd), .second, .val (.int ga), .val (.int gb), .val (.int va), .val (.int vb), .val (.int (2 : Int32)), .val (.long D0), .second, .val (.long D1), .second, .val (.long D2), .second, .val (.double xa), .second, .val (.double xb), .second, .val (.double xc), .second, .val (.ref o1), .val (.ref o3), .val (.ref o5), .val (.ref nb6), .val (.ref o98), .val (.int (1 : Int32))] [])
    refine own_st (fun t_ k_ => XS.aload X113.here hx rfl (hb hby at_228) rfl rfl k_) ?_
    show own_Go p e below _ T113 (mkF m 230 #[.val (.int nn), .val (.long dd), .second, .val (.int ga), .val (.int gb), .val (.int va), .val (.int vb), .val (.int (2 : Int32)), .val (.long D0), .second, .val (.long D1), .second, .val (.long D2), .second, .val (.double xa), .second, .val (.double xb), .second, .val (.double xc), .second, .val (.ref o1), .val (.ref o3), .val (.ref o5), .val (.ref nb6), .val (.ref o98), .val (.int (1 : Int32))] [(.ref o98)])
    refine own_st (fun t_ k_ => XS.iconst X113.here hx rfl (hb hby at_230) k_) ?_
    show own_Go p e below _ T113 (mkF m 231 #[.val (.int nn), .val (.long dd), .second, .val (.int ga), .val (.int gb), .val (.int va), .val (.int vb), .val (.int (2 : Int32)), .val (.long D0), .second, .val (.long D1), .second, .val (.long D2), .second, .val (.double xa), .second, .val (.double xb), .second, .val (.double xc), .second, .val (.ref o1), .val (.ref o3), .val (.ref o5), .val (.ref nb6), .val (.ref o98), .val (.int (1 : Int32))] [(.int (1 : Int32)), (.ref o98)])
    have f116 := (Fd98.keep Kq106 nin0)
    have f117 := (Aa98.keep Kq106 nin0)
    obtain ⟨cq119, kq119, q119a, q119b, q119c⟩ := isOf hZ hh113 f115
    refine own_callV X113 hx (y := (⟨"com/example/hebelwerk/hebelwerk/engine/DatedValues", "date", "(I)Ljava/time/LocalDate;"⟩ : MethodName)) (z := (⟨"com/example/hebelwerk/hebelwerk/engine/DatedValues", "date", "(I)Ljava/time/LocalDate;"⟩ : MethodName)) hown (mvT hZ (hw _ (List.mem_of_getElem? (i := 149) rfl))) (mvT hZ (hw _ (List.mem_of_getElem? (i := 150) rfl))) (notFace_of_selects (args := #[]) (mvT hZ (hw _ (List.mem_of_getElem? (i := 152) rfl)))) (mvT hZ (hw _ (List.mem_of_getElem? (i := 152) rfl))) (mvT hZ (hw _ (List.mem_of_getElem? (i := 151) rfl))) (by decide) (backOf (W := 0) (rmDT21 l Z a0 hw [] o98 ta98 ka98 D0 D1 cf rg iso T106.heap n0 (Nat.le_trans Z0 K106.1) f108 SEp Ecf Frg Erg Fmn Fmx SIn Eis f116 f117 (own_b1' d_D0 d_D1)) hZ (hw _ (List.mem_of_getElem? (i := 153) rfl)) (hw _ (List.mem_of_getElem? (i := 88) rfl)) (by decide) (by decide)) q119a q119c (g := (mkF m 231 #[.val (.int nn), .val (.long dd), .second, .val (.int ga), .val (.int gb), .val (.int va), .val (.int vb), .val (.int (2 : Int32)), .val (.long D0), .second, .val (.long D1), .second, .val (.long D2), .second, .val (.double xa), .second, .val (.double xb), .second, .val (.double xc), .second, .val (.ref o1), .val (.ref o3), .val (.ref o5), .val (.ref nb6), .val (.ref o98), .val (.int (1 : Int32))] [(.int (1 : Int32)), (.ref o98)])) rfl (by rw [hml]; rfl) (argsL := [(.int (1 : Int32))]) (rest := []) (lenOf pd_17 rfl) rfl (by show 2 * 0 + _ ≤ _; exact Nat.le_of_eq rfl) (hb hby at_231) rfl hh113 (by decide) (by decide) ?_
    rintro v118 T118 L118 X118 ⟨o118, y118, mo118, kd118, rfl, Nq118, Kq118, go118, g_o118, Eo118, Fy118, Fm118, Fd118, hD118⟩
    have N118 := Fr.app N113 Nq118
    have K118 : Keep h0 T118.heap [] := K106.trans Kq118 all0
    have sz_o118 : h0.size ≤ o118 := Nat.le_trans K106.1 go118
    show own_Go p e below _ T118 (mkF m 234 #[.val (.int nn), .val (.long dd), .second, .val (.int ga), .val (.int gb), .val (.int va), .val (.int vb), .val (.int (2 : Int32)), .val (.long D0), .second, .val (.long D1), .second, .val (.long D2), .second, .val (.double xa), .second, .val (.double xb), .second, .val (.double xc), .second, .val (.ref o1), .val (.ref o3), .val (.ref o5), .val (.ref nb6), .val (.ref o98), .val (.int (1 : Int32))] [(.ref o118)])
    have f120 := (f108.keep Kq118 all0)
    obtain ⟨cq122, kq122, q122a, q122b, q122c⟩ := isOf hZ rfl Eo118
    refine own_callV X118 hx (y := (⟨"java/time/LocalDate", "toEpochDay", "()J"⟩ : MethodName)) (z := (⟨"java/time/LocalDate", "toEpochDay", "()J"⟩ : MethodName)) hown (mvT hZ (hw _ (List.mem_of_getElem? (i := 155) rfl))) (mvT hZ (hw _ (List.mem_of_getElem? (i := 130) rfl))) (notFace_of_selects (args := #[]) (mvT hZ (hw _ (List.mem_of_getElem? (i := 132) rfl)))) (mvT hZ (hw _ (List.mem_of_getElem? (i := 132) rfl))) (mvT hZ (hw _ (List.mem_of_getElem? (i := 131) rfl))) (by decide) (backOf (W := 0) (rmTE l Z a0 hw [] o118 y118 mo118 kd118 D1 cf rg iso T118.heap n0 (Nat.le_trans Z0 K118.1) f120 SEp Ecf Frg Erg Fmn Fmx SIn Eis Eo118 Fy118 Fm118 Fd118 hD118 (own_b1' d_D0 d_D1)) hZ (hw _ (List.mem_of_getElem? (i := 133) rfl)) (hw _ (List.mem_of_getElem? (i := 4) rfl)) (by decide) (by decide)) q122a q122c (g := (mkF m 234 #[.val (.int nn), .val (.long dd), .second, .val (.int ga), .val (.int gb), .val (.int va), .val (.int vb), .val (.int (2 : Int32)), .val (.long D0), .second, .val (.long D1), .second, .val (.long D2), .second, .val (.double xa), .second, .val (.double xb), .second, .val (.double xc), .second, .val (.ref o1), .val (.ref o3), .val (.ref o5), .val (.ref nb6), .val (.ref o98), .val (.int (1 : Int32))] [(.ref o118)])) rfl (by rw [hml]; rfl) (argsL := []) (rest := []) (lenOf pd_0 rfl) rfl (by show 2 * 0 + _ ≤ _; exact Nat.le_of_eq rfl) (hb hby at_234) rfl rfl (by decide) (by decide) ?_
    rintro v121 T121 L121 X121 ⟨rfl, Nq121, hh121⟩
    have N121 := Fr.app N118 Nq121
    show own_Go p e below _ T121 (mkF m 237 #[.val (.int nn), .val (.long dd), .second, .val (.int ga), .val (.int gb), .val (.int va), .val (.int vb), .val (.int (2 : Int32)), .val (.long D0), .second, .val (.long D1), .second, .val (.long D2), .second, .val (.double xa), .second, .val (.double xb), .second, .val (.double xc), .second, .val (.ref o1), .val (.ref o3), .val (.ref o5), .val (.ref nb6), .val (.ref o98), .val (.int (1 : Int32))] [(.long D1)])
    refine own_st (fun t_ k_ => XS.lload X121.here hx rfl (hb hby at_237) rfl k_) ?_
    show own_Go p e below _ T121 (mkF m 239 #[.val (.int nn), .val (.long dd), .second, .val (.int ga), .val (.int gb), .val (.int va), .val (.int vb), .val (.int (2 : Int32)), .val (.long D0), .second, .val (.long D1), .second, .val (.long D2), .second, .val (.double xa), .second, .val (.double xb), .second, .val (.double xc), .second, .val (.ref o1), .val (.ref o3), .val (.ref o5), .val (.ref nb6), .val (.ref o98), .val (.int (1 : Int32))] [(.long D1), (.long D1)])
    refine own_st (fun t_ k_ => XS.lcmp X121.here hx rfl (hb hby at_239) rfl k_) ?_
    show own_Go p e below _ T121 (mkF m 240 #[.val (.int nn), .val (.long dd), .second, .val (.int ga), .val (.int gb), .val (.int va), .val (.int vb), .val (.int (2 : Int32)), .val (.long D0), .second, .val (.long D1), .second, .val (.long D2), .second, .val (.double xa), .second, .val (.double xb), .second, .val (.double xc), .second, .val (.ref o1), .val (.ref o3), .val (.ref o5), .val (.ref nb6), .val (.ref o98), .val (.int (1 : Int32))] [(.int (lcmpW D1 D1))])
    refine own_st (fun t_ k_ => XS.ifNo X121.here hx rfl (hb hby at_240) rfl ((if0 _ _).trans (teq qD1).2) k_) ?_
    show own_Go p e below _ T121 (mkF m 243 #[.val (.int nn), .val (.long dd), .second, .val (.int ga), .val (.int gb), .val (.int va), .val (.int vb), .val (.int (2 : Int32)), .val (.long D0), .second, .val (.long D1), .second, .val (.long D2), .second, .val (.double xa), .second, .val (.double xb), .second, .val (.double xc), .second, .val (.ref o1), .val (.ref o3), .val (.ref o5), .val (.ref nb6), .val (.ref o98), .val (.int (1 : Int32))] [])
    refine own_st (fun t_ k_ => XS.aload X121.here hx rfl (hb hby at_243) rfl rfl k_) ?_
    show own_Go p e below _ T121 (mkF m 245 #[.val (.int nn), .val (.long dd), .second, .val (.int ga), .val (.int gb), .val (.int va), .val (.int vb), .val (.int (2 : Int32)), .val (.long D0), .second, .val (.long D1), .second, .val (.long D2), .second, .val (.double xa), .second, .val (.double xb), .second, .val (.double xc), .second, .val (.ref o1), .val (.ref o3), .val (.ref o5), .val (.ref nb6), .val (.ref o98), .val (.int (1 : Int32))] [(.ref o98)])
    refine own_st (fun t_ k_ => XS.iconst X121.here hx rfl (hb hby at_245) k_) ?_
    show own_Go p e below _ T121 (mkF m 246 #[.val (.int nn), .val (.long dd), .second, .val (.int ga), .val (.int gb), .val (.int va), .val (.int vb), .val (.int (2 : Int32)), .val (.long D0), .second, .val (.long D1), .second, .val (.long D2), .second, .val (.double xa), .second, .val (.double xb), .second, .val (.double xc), .second, .val (.ref o1), .val (.ref o3), .val (.ref o5), .val (.ref nb6), .val (.ref o98), .val (.int (1 : Int32))] [(.int (1 : Int32)), (.ref o98)])
    have f123 := (f111.keep Kq118 nin0)
    have f124 := (f112.keep Kq118 nin0)
    have f127 := (f115.keep Kq118)
    obtain ⟨cq126, kq126, q126a, q126b, q126c⟩ := isOf hZ hh121 f127
    refine own_callV X121 hx (y := (⟨"com/example/hebelwerk/hebelwerk/engine/DatedValues", "value", "(I)D"⟩ : MethodName)) (z := (⟨"com/example/hebelwerk/hebelwerk/engine/DatedValues", "value", "(I)D"⟩ : MethodName)) hown (mvT hZ (hw _ (List.mem_of_getElem? (i := 156) rfl))) (mvT hZ (hw _ (List.mem_of_getElem? (i := 157) rfl))) (notFace_of_selects (args := #[]) (mvT hZ (hw _ (List.mem_of_getElem? (i := 159) rfl)))) (mvT hZ (hw _ (List.mem_of_getElem? (i := 159) rfl))) (mvT hZ (hw _ (List.mem_of_getElem? (i := 158) rfl))) (by decide) (backOf (W := 0) (rmVL21 l Z a0 hw [] o98 tb98 kb98 xa xb T118.heap n0 (Nat.le_trans Z0 K118.1) f123 f124) hZ (hw _ (List.mem_of_getElem? (i := 160) rfl)) (hw _ (List.mem_of_getElem? (i := 88) rfl)) (by decide) (by decide)) q126a q126c (g := (mkF m 246 #[.val (.int nn), .val (.long dd), .second, .val (.int ga), .val (.int gb), .val (.int va), .val (.int vb), .val (.int (2 : Int32)), .val (.long D0), .second, .val (.long D1), .second, .val (.long D2), .second, .val (.double xa), .second, .val (.double xb), .second, .val (.double xc), .second, .val (.ref o1), .val (.ref o3), .val (.ref o5), .val (.ref nb6), .val (.ref o98), .val (.int (1 : Int32))] [(.int (1 : Int32)), (.ref o98)])) rfl (by rw [hml]; rfl) (argsL := [(.int (1 : Int32))]) (rest := []) (lenOf pd_18 rfl) rfl (by show 2 * 0 + _ ≤ _; exact Nat.le_of_eq rfl) (hb hby at_246) rfl hh121 (by decide) (by decide) ?_
    rintro v125 T125 L125 X125 ⟨rfl, Nq125, hh125⟩
    have N125 := Fr.app N121 Nq125
    show own_Go p e below _ T125 (mkF m 249 #[.val (.int nn), .val (.long dd), .second, .val (.int ga), .val (.int gb), .val (.int va), .val (.int vb), .val (.int (2 : Int32)), .val (.long D0), .second, .val (.long D1), .second, .val (.long D2), .second, .val (.double xa), .second, .val (.double xb), .second, .val (.double xc), .second, .val (.ref o1), .val (.ref o3), .val (.ref o5), .val (.ref nb6), .val (.ref o98), .val (.int (1 : Int32))] [(.double xb)])
    refine own_st (fun t_ k_ => XS.dload X125.here hx rfl (hb hby at_249) rfl k_) ?_
    show own_Go p e below _ T125 (mkF m 251 #[.val (.int nn), .val (.long dd), .second, .val (.int ga), .val (.int gb), .val (.int va), .val (.int vb), .val (.int (2 : Int32)), .val (.long D0), .second, .val (.long D1), .second, .val (.long D2), .second, .val (.double xa), .second, .val (.double xb), .second, .val (.double xc), .second, .val (.ref o1), .val (.ref o3), .val (.ref o5), .val (.ref nb6), .val (.ref o98), .val (.int (1 : Int32))] [(.double xb), (.double xb)])
    refine own_st (fun t_ k_ => XS.dcmpS X125.here hx rfl (hb hby at_251) rfl (v := (0 : Int32)) (dcmpV_self d_xb.noNaN _) k_) ?_
    show own_Go p e below _ T125 (mkF m 252 #[.val (.int nn), .val (.long dd), .second, .val (.int ga), .val (.int gb), .val (.int va), .val (.int vb), .val (.int (2 : Int32)), .val (.long D0), .second, .val (.long D1), .second, .val (.long D2), .second, .val (.double xa), .second, .val (.double xb), .second, .val (.double xc), .second, .val (.ref o1), .val (.ref o3), .val (.ref o5), .val (.ref nb6), .val (.ref o98), .val (.int (1 : Int32))] [(.int (0 : Int32))])
    refine own_st (fun t_ k_ => XS.ifNo X125.here hx rfl (hb hby at_252) rfl (by decide) k_) ?_
    show own_Go p e below _ T125 (mkF m 255 #[.val (.int nn), .val (.long dd), .second, .val (.int ga), .val (.int gb), .val (.int va), .val (.int vb), .val (.int (2 : Int32)), .val (.long D0), .second, .val (.long D1), .second, .val (.long D2), .second, .val (.double xa), .second, .val (.double xb), .second, .val (.double xc), .second, .val (.ref o1), .val (.ref o3), .val (.ref o5), .val (.ref nb6), .val (.ref o98), .val (.int (1 : Int32))] [])
    refine own_st (fun t_ k_ => XS.iconst X125.here hx rfl (hb hby at_255) k_) ?_
    show own_Go p e below _ T125 (mkF m 256 #[.val (.int nn), .val (.long dd), .second, .val (.int ga), .val (.int gb), .val (.int va), .val (.int vb), .val (.int (2 : Int32)), .val (.long D0), .second, .val (.long D1), .second, .val (.long D2), .second, .val (.double xa), .second, .val (.double xb), .second, .val (.double xc), .second, .val (.ref o1), .val (.ref o3), .val (.ref o5), .val (.ref nb6), .val (.ref o98), .val (.int (1 : Int32))] [(.int (1 : Int32))])
    refine own_st (fun t_ k_ => XS.goto X125.here hx rfl (pc0 := 256) (pc' := 260) rfl (hb hby at_256) (by decide) (by decide) k_) ?_
    show own_Go p e below _ T125 (mkF m 260 #[.val (.int nn), .val (.long dd), .second, .val (.int ga), .val (.int gb), .val (.int va), .val (.int vb), .val (.int (2 : Int32)), .val (.long D0), .second, .val (.long D1), .second, .val (.long D2), .second, .val (.double xa), .second, .val (.double xb), .second, .val (.double xc), .second, .val (.ref o1), .val (.ref o3), .val (.ref o5), .val (.ref nb6), .val (.ref o98), .val (.int (1 : Int32))] [(.int (1 : Int32))])
    refine own_st (fun t_ k_ => XS.istore X125.here hx rfl (hb hby at_260) rfl (l' := #[.val (.int nn), .val (.long dd), .second, .val (.int ga), .val (.int gb), .val (.int va), .val (.int vb), .val (.int (2 : Int32)), .val (.long D0), .second, .val (.long D1), .second, .val (.long D2), .second, .val (.double xa), .second, .val (.double xb), .second, .val (.double xc), .second, .val (.ref o1), .val (.ref o3), .val (.ref o5), .val (.ref nb6), .val (.ref o98), .val (.int (1 : Int32))]) rfl k_) ?_
    show own_Go p e below _ T125 (mkF m 262 #[.val (.int nn), .val (.long dd), .second, .val (.int ga), .val (.int gb), .val (.int va), .val (.int vb), .val (.int (2 : Int32)), .val (.long D0), .second, .val (.long D1), .second, .val (.long D2), .second, .val (.double xa), .second, .val (.double xb), .second, .val (.double xc), .second, .val (.ref o1), .val (.ref o3), .val (.ref o5), .val (.ref nb6), .val (.ref o98), .val (.int (1 : Int32))] [])
    refine own_st (fun t_ k_ => XS.iload X125.here hx rfl (hb hby at_262) rfl k_) ?_
    show own_Go p e below _ T125 (mkF m 264 #[.val (.int nn), .val (.long dd), .second, .val (.int ga), .val (.int gb), .val (.int va), .val (.int vb), .val (.int (2 : Int32)), .val (.long D0), .second, .val (.long D1), .second, .val (.long D2), .second, .val (.double xa), .second, .val (.double xb), .second, .val (.double xc), .second, .val (.ref o1), .val (.ref o3), .val (.ref o5), .val (.ref nb6), .val (.ref o98), .val (.int (1 : Int32))] [(.int (1 : Int32))])
    refine own_st (fun t_ k_ => XS.ifNo X125.here hx rfl (hb hby at_264) rfl (by decide) k_) ?_
    show own_Go p e below _ T125 (mkF m 267 #[.val (.int nn), .val (.long dd), .second, .val (.int ga), .val (.int gb), .val (.int va), .val (.int vb), .val (.int (2 : Int32)), .val (.long D0), .second, .val (.long D1), .second, .val (.long D2), .second, .val (.double xa), .second, .val (.double xb), .second, .val (.double xc), .second, .val (.ref o1), .val (.ref o3), .val (.ref o5), .val (.ref nb6), .val (.ref o98), .val (.int (1 : Int32))] [])
    refine own_st (fun t_ k_ => XS.iload X125.here hx rfl (hb hby at_267) rfl k_) ?_
    show own_Go p e below _ T125 (mkF m 269 #[.val (.int nn), .val (.long dd), .second, .val (.int ga), .val (.int gb), .val (.int va), .val (.int vb), .val (.int (2 : Int32)), .val (.long D0), .second, .val (.long D1), .second, .val (.long D2), .second, .val (.double xa), .second, .val (.double xb), .second, .val (.double xc), .second, .val (.ref o1), .val (.ref o3), .val (.ref o5), .val (.ref nb6), .val (.ref o98), .val (.int (1 : Int32))] [(.int (2 : Int32))])
    refine own_st (fun t_ k_ => XS.iconst X125.here hx rfl (hb hby at_269) k_) ?_
    show own_Go p e below _ T125 (mkF m 270 #[.val (.int nn), .val (.long dd), .second, .val (.int ga), .val (.int gb), .val (.int va), .val (.int vb), .val (.int (2 : Int32)), .val (.long D0), .second, .val (.long D1), .second, .val (.long D2), .second, .val (.double xa), .second, .val (.double xb), .second, .val (.double xc), .second, .val (.ref o1), .val (.ref o3), .val (.ref o5), .val (.ref nb6), .val (.ref o98), .val (.int (1 : Int32))] [(.int (3 : Int32)), (.int (2 : Int32))])
    refine own_st (fun t_ k_ => XS.icmpYes X125.here hx rfl (pc0 := 270) (pc' := 307) rfl (hb hby at_270) rfl (by decide) (by decide) (by decide) k_) ?_
    show own_Go p e below _ T125 (mkF m 307 #[.val (.int nn), .val (.long dd), .second, .val (.int ga), .val (.int gb), .val (.int va), .val (.int vb), .val (.int (2 : Int32)), .val (.long D0), .second, .val (.long D1), .second, .val (.long D2), .second, .val (.double xa), .second, .val (.double xb), .second, .val (.double xc), .second, .val (.ref o1), .val (.ref o3), .val (.ref o5), .val (.ref nb6), .val (.ref o98), .val (.int (1 : Int32))] [])
    refine own_st (fun t_ k_ => XS.iload X125.here hx rfl (hb hby at_307) rfl k_) ?_
    show own_Go p e below _ T125 (mkF m 309 #[.val (.int nn), .val (.long dd), .second, .val (.int ga), .val (.int gb), .val (.int va), .val (.int vb), .val (.int (2 : Int32)), .val (.long D0), .second, .val (.long D1), .second, .val (.long D2), .second, .val (.double xa), .second, .val (.double xb), .second, .val (.double xc), .second, .val (.ref o1), .val (.ref o3), .val (.ref o5), .val (.ref nb6), .val (.ref o98), .val (.int (1 : Int32))] [(.int (1 : Int32))])
    refine own_retN X125 hx hlk (t := .boolean) Bd.returns (by simp) (hb hby at_309) ?_ (by decide) (by decide)
    show Q0 n0 _ T125.heap _
    rw [hh125]
    exact ⟨rfl, N125⟩
  · show own_Go p e below _ T7 (mkF m 85 #[.val (.int nn), .val (.long dd), .second, .val (.int ga), .val (.int gb), .val (.int va), .val (.int vb), .val (.int (3 : Int32)), .val (.long D0), .second, .val (.long D1), .second, .val (.long D2), .second, .val (.double xa), .second, .val (.double xb), .second, .val (.double xc), .second, .val (.ref o1), .val (.ref o3), .val (.ref o5), .val (.ref nb6), .unset, .unset] [])
    have qD0 : (lcmpW D0 D0) = (0 : Int32) := own_lce.mpr rfl
    have qD1 : (lcmpW D1 D1) = (0 : Int32) := own_lce.mpr rfl
    have qD2 : (lcmpW D2 D2) = (0 : Int32) := own_lce.mpr rfl
    refine own_st (fun t_ k_ => XS.iload X7.here hx rfl (hb hby at_85) rfl k_) ?_
    show own_Go p e below _ T7 (mkF m 87 #[.val (.int nn), .val (.long dd), .second, .val (.int ga), .val (.int gb), .val (.int va), .val (.int vb), .val (.int (3 : Int32)), .val (.long D0), .second, .val (.long D1), .second, .val (.long D2), .second, .val (.double xa), .second, .val (.double xb), .second, .val (.double xc), .second, .val (.ref o1), .val (.ref o3), .val (.ref o5), .val (.ref nb6), .unset, .unset] [(.int (3 : Int32))])
    refine own_st (fun t_ k_ => XS.iconst X7.here hx rfl (hb hby at_87) k_) ?_
    show own_Go p e below _ T7 (mkF m 88 #[.val (.int nn), .val (.long dd), .second, .val (.int ga), .val (.int gb), .val (.int va), .val (.int vb), .val (.int (3 : Int32)), .val (.long D0), .second, .val (.long D1), .second, .val (.long D2), .second, .val (.double xa), .second, .val (.double xb), .second, .val (.double xc), .second, .val (.ref o1), .val (.ref o3), .val (.ref o5), .val (.ref nb6), .unset, .unset] [(.int (1 : Int32)), (.int (3 : Int32))])
    refine own_st (fun t_ k_ => XS.icmpNo X7.here hx rfl (hb hby at_88) rfl (by decide) k_) ?_
    show own_Go p e below _ T7 (mkF m 91 #[.val (.int nn), .val (.long dd), .second, .val (.int ga), .val (.int gb), .val (.int va), .val (.int vb), .val (.int (3 : Int32)), .val (.long D0), .second, .val (.long D1), .second, .val (.long D2), .second, .val (.double xa), .second, .val (.double xb), .second, .val (.double xc), .second, .val (.ref o1), .val (.ref o3), .val (.ref o5), .val (.ref nb6), .unset, .unset] [])
    refine own_st (fun t_ k_ => XS.aload X7.here hx rfl (hb hby at_91) rfl rfl k_) ?_
    show own_Go p e below _ T7 (mkF m 93 #[.val (.int nn), .val (.long dd), .second, .val (.int ga), .val (.int gb), .val (.int va), .val (.int vb), .val (.int (3 : Int32)), .val (.long D0), .second, .val (.long D1), .second, .val (.long D2), .second, .val (.double xa), .second, .val (.double xb), .second, .val (.double xc), .second, .val (.ref o1), .val (.ref o3), .val (.ref o5), .val (.ref nb6), .unset, .unset] [(.ref nb6)])
    refine own_st (fun t_ k_ => XS.aload X7.here hx rfl (hb hby at_93) rfl rfl k_) ?_
    show own_Go p e below _ T7 (mkF m 95 #[.val (.int nn), .val (.long dd), .second, .val (.int ga), .val (.int gb), .val (.int va), .val (.int vb), .val (.int (3 : Int32)), .val (.long D0), .second, .val (.long D1), .second, .val (.long D2), .second, .val (.double xa), .second, .val (.double xb), .second, .val (.double xc), .second, .val (.ref o1), .val (.ref o3), .val (.ref o5), .val (.ref nb6), .unset, .unset] [(.ref o1), (.ref nb6)])
    refine own_st (fun t_ k_ => XS.dload X7.here hx rfl (hb hby at_95) rfl k_) ?_
    show own_Go p e below _ T7 (mkF m 97 #[.val (.int nn), .val (.long dd), .second, .val (.int ga), .val (.int gb), .val (.int va), .val (.int vb), .val (.int (3 : Int32)), .val (.long D0), .second, .val (.long D1), .second, .val (.long D2), .second, .val (.double xa), .second, .val (.double xb), .second, .val (.double xc), .second, .val (.ref o1), .val (.ref o3), .val (.ref o5), .val (.ref nb6), .unset, .unset] [(.double xa), (.ref o1), (.ref nb6)])
    have f128 := (Fy1.keep Kq3 nin0)
    have f129 := (f128.keep Kq5 nin0)
    have f130 := (Fld.ext E6 f129)
    have f132 := (Eo1.keep Kq3)
    have f133 := (f132.keep Kq5)
    have ne131 : o1 ≠ nb6 := (Nat.ne_of_lt (Nat.lt_of_lt_of_le f133.lt (Nat.le_of_eq g6.symm)))
    have f134 := (f130.keep Kq7 (ninS ne131 nin0))
    have f135 := (Fm1.keep Kq3 nin0)
    have f136 := (f135.keep Kq5 nin0)
    have f137 := (Fld.ext E6 f136)
    have f138 := (f137.keep Kq7 (ninS ne131 nin0))
    have f139 := (Fd1.keep Kq3 nin0)
    have f140 := (f139.keep Kq5 nin0)
    have f141 := (Fld.ext E6 f140)
    have f142 := (f141.keep Kq7 (ninS ne131 nin0))
    have f143 := (f4.keep Kq5 all0)
    have f144 := (f143.ext E6)
    have f145 := (f144.keep Kq7 (allS g_nb6 all0))
    have f146 := (Exa.ext E6 f133)
    have f147 := (f146.keep Kq7)
    obtain ⟨cq149, kq149, q149a, q149b, q149c⟩ := isOf hZ rfl Eq7
    refine own_callV X7 hx (y := (⟨"com/example/hebelwerk/hebelwerk/engine/DatedValues$Builder", "add", "(Ljava/time/LocalDate;D)V"⟩ : MethodName)) (z := (⟨"com/example/hebelwerk/hebelwerk/engine/DatedValues$Builder", "add", "(Ljava/time/LocalDate;D)V"⟩ : MethodName)) hown (mvT hZ (hw _ (List.mem_of_getElem? (i := 124) rfl))) (mvT hZ (hw _ (List.mem_of_getElem? (i := 125) rfl))) (notFace_of_selects (args := #[]) (mvT hZ (hw _ (List.mem_of_getElem? (i := 127) rfl)))) (mvT hZ (hw _ (List.mem_of_getElem? (i := 127) rfl))) (mvT hZ (hw _ (List.mem_of_getElem? (i := 126) rfl))) (by decide) (backOf (W := 0) (rmAD0 l Z a0 hw [] nb6 ta7 tb7 ka7 kb7 o1 y1 mo1 kd1 D0 xa (0 : Int64) (0 : Int64) (0 : Int64) (0 : UInt64) (0 : UInt64) (0 : UInt64) cf rg iso T7.heap n0 (Nat.le_trans Z0 K7.1) f145 SEp Ecf Frg Erg Fmn Fmx SIn Eis g_nb6 g_ta7 g_tb7 Eq7 Fd7 Fv7 Fs7 Aa7 Ab7 f147 f134 f138 f142 hD1 (own_b0 d_D0) d_xa) hZ (hw _ (List.mem_of_getElem? (i := 128) rfl)) (hw _ (List.mem_of_getElem? (i := 70) rfl)) (by decide) (by decide)) q149a q149c (g := (mkF m 97 #[.val (.int nn), .val (.long dd), .second, .val (.int ga), .val (.int gb), .val (.int va), .val (.int vb), .val (.int (3 : Int32)), .val (.long D0), .second, .val (.long D1), .second, .val (.long D2), .second, .val (.double xa), .second, .val (.double xb), .second, .val (.double xc), .second, .val (.ref o1), .val (.ref o3), .val (.ref o5), .val (.ref nb6), .unset, .unset] [(.double xa), (.ref o1), (.ref nb6)])) rfl (by rw [hml]; rfl) (argsL := [(.ref o1), (.double xa)]) (rest := []) (lenOf pd_16 rfl) rfl (by show 2 * 0 + _ ≤ _; exact Nat.le_of_eq rfl) (hb hby at_97) rfl rfl (by decide) (by decide) ?_
    rintro v148 T148 L148 X148 ⟨rfl, Nq148, Kq148, Eq148, Fd148, Fv148, Fs148, Aa148, Ab148⟩
    have N148 := Fr.app N7 Nq148
    have K148 : Keep h0 T148.heap [] := K7.trans Kq148 (allS (Or.inr sz_nb6) (allS (Or.inr sz_ta7) (allS (Or.inr sz_tb7) all0)))
    show own_Go p e below _ T148 (mkF m 100 #[.val (.int nn), .val (.long dd), .second, .val (.int ga), .val (.int gb), .val (.int va), .val (.int vb), .val (.int (3 : Int32)), .val (.long D0), .second, .val (.long D1), .second, .val (.long D2), .second, .val (.double xa), .second, .val (.double xb), .second, .val (.double xc), .second, .val (.ref o1), .val (.ref o3), .val (.ref o5), .val (.ref nb6), .unset, .unset] [])
    refine own_st (fun t_ k_ => XS.iload X148.here hx rfl (hb hby at_100) rfl k_) ?_
    show own_Go p e below _ T148 (mkF m 102 #[.val (.int nn), .val (.long dd), .second, .val (.int ga), .val (.int gb), .val (.int va), .val (.int vb), .val (.int (3 : Int32)), .val (.long D0), .second, .val (.long D1), .second, .val (.long D2), .second, .val (.double xa), .second, .val (.double xb), .second, .val (.double xc), .second, .val (.ref o1), .val (.ref o3), .val (.ref o5), .val (.ref nb6), .unset, .unset] [(.int (3 : Int32))])
    refine own_st (fun t_ k_ => XS.iconst X148.here hx rfl (hb hby at_102) k_) ?_
    show own_Go p e below _ T148 (mkF m 103 #[.val (.int nn), .val (.long dd), .second, .val (.int ga), .val (.int gb), .val (.int va), .val (.int vb), .val (.int (3 : Int32)), .val (.long D0), .second, .val (.long D1), .second, .val (.long D2), .second, .val (.double xa), .second, .val (.double xb), .second, .val (.double xc), .second, .val (.ref o1), .val (.ref o3), .val (.ref o5), .val (.ref nb6), .unset, .unset] [(.int (2 : Int32)), (.int (3 : Int32))])
    refine own_st (fun t_ k_ => XS.icmpNo X148.here hx rfl (hb hby at_103) rfl (by decide) k_) ?_
    show own_Go p e below _ T148 (mkF m 106 #[.val (.int nn), .val (.long dd), .second, .val (.int ga), .val (.int gb), .val (.int va), .val (.int vb), .val (.int (3 : Int32)), .val (.long D0), .second, .val (.long D1), .second, .val (.long D2), .second, .val (.double xa), .second, .val (.double xb), .second, .val (.double xc), .second, .val (.ref o1), .val (.ref o3), .val (.ref o5), .val (.ref nb6), .unset, .unset] [])
    refine own_st (fun t_ k_ => XS.aload X148.here hx rfl (hb hby at_106) rfl rfl k_) ?_
    show own_Go p e below _ T148 (mkF m 108 #[.val (.int nn), .val (.long dd), .second, .val (.int ga), .val (.int gb), .val (.int va), .val (.int vb), .val (.int (3 : Int32)), .val (.long D0), .second, .val (.long D1), .second, .val (.long D2), .second, .val (.double xa), .second, .val (.double xb), .second, .val (.double xc), .second, .val (.ref o1), .val (.ref o3), .val (.ref o5), .val (.ref nb6), .unset, .unset] [(.ref nb6)])
    refine own_st (fun t_ k_ => XS.aload X148.here hx rfl (hb hby at_108) rfl rfl k_) ?_
    show own_Go p e below _ T148 (mkF m 110 #[.val (.int nn), .val (.long dd), .second, .val (.int ga), .val (.int gb), .val (.int va), .val (.int vb), .val (.int (3 : Int32)), .val (.long D0), .second, .val (.long D1), .second, .val (.long D2), .second, .val (.double xa), .second, .val (.double xb), .second, .val (.double xc), .second, .val (.ref o1), .val (.ref o3), .val (.ref o5), .val (.ref nb6), .unset, .unset] [(.ref o3), (.ref nb6)])
    refine own_st (fun t_ k_ => XS.dload X148.here hx rfl (hb hby at_110) rfl k_) ?_
    show own_Go p e below _ T148 (mkF m 112 #[.val (.int nn), .val (.long dd), .second, .val (.int ga), .val (.int gb), .val (.int va), .val (.int vb), .val (.int (3 : Int32)), .val (.long D0), .second, .val (.long D1), .second, .val (.long D2), .second, .val (.double xa), .second, .val (.double xb), .second, .val (.double xc), .second, .val (.ref o1), .val (.ref o3), .val (.ref o5), .val (.ref nb6), .unset, .unset] [(.double xb), (.ref o3), (.ref nb6)])
    have f150 := (Fy3.keep Kq5 nin0)
    have f151 := (Fld.ext E6 f150)
    have f153 := (Eo3.keep Kq5)
    have ne152 : o3 ≠ nb6 := (Nat.ne_of_lt (Nat.lt_of_lt_of_le f153.lt (Nat.le_of_eq g6.symm)))
    have f154 := (f151.keep Kq7 (ninS ne152 nin0))
    have f156 := (Exa.ext E6 f153)
    have ne155 : o3 ≠ tb7 := (Nat.ne_of_lt (Nat.lt_of_lt_of_le f156.lt gb7))
    have ne157 : o3 ≠ ta7 := (Nat.ne_of_lt (Nat.lt_of_lt_of_le f156.lt ga7))
    have f158 := (f154.keep Kq148 (ninS ne152 (ninS ne157 (ninS ne155 nin0))))
    have f159 := (Fm3.keep Kq5 nin0)
    have f160 := (Fld.ext E6 f159)
    have f161 := (f160.keep Kq7 (ninS ne152 nin0))
    have f162 := (f161.keep Kq148 (ninS ne152 (ninS ne157 (ninS ne155 nin0))))
    have f163 := (Fd3.keep Kq5 nin0)
    have f164 := (Fld.ext E6 f163)
    have f165 := (f164.keep Kq7 (ninS ne152 nin0))
    have f166 := (f165.keep Kq148 (ninS ne152 (ninS ne157 (ninS ne155 nin0))))
    have f167 := (f145.keep Kq148 (allS g_nb6 (allS g_ta7 (allS g_tb7 all0))))
    have f168 := (f156.keep Kq7)
    have f169 := (f168.keep Kq148)
    obtain ⟨cq171, kq171, q171a, q171b, q171c⟩ := isOf hZ rfl Eq148
    refine own_callV X148 hx (y := (⟨"com/example/hebelwerk/hebelwerk/engine/DatedValues$Builder", "add", "(Ljava/time/LocalDate;D)V"⟩ : MethodName)) (z := (⟨"com/example/hebelwerk/hebelwerk/engine/DatedValues$Builder", "add", "(Ljava/time/LocalDate;D)V"⟩ : MethodName)) hown (mvT hZ (hw _ (List.mem_of_getElem? (i := 124) rfl))) (mvT hZ (hw _ (List.mem_of_getElem? (i := 125) rfl))) (notFace_of_selects (args := #[]) (mvT hZ (hw _ (List.mem_of_getElem? (i := 127) rfl)))) (mvT hZ (hw _ (List.mem_of_getElem? (i := 127) rfl))) (mvT hZ (hw _ (List.mem_of_getElem? (i := 126) rfl))) (by decide) (backOf (W := 0) (rmAD1 l Z a0 hw [] nb6 ta7 tb7 ka7 kb7 o3 y3 mo3 kd3 D1 xb D0 (0 : Int64) (0 : Int64) xa (0 : UInt64) (0 : UInt64) cf rg iso T148.heap n0 (Nat.le_trans Z0 K148.1) f167 SEp Ecf Frg Erg Fmn Fmx SIn Eis g_nb6 g_ta7 g_tb7 Eq148 Fd148 Fv148 Fs148 Aa148 Ab148 f169 f158 f162 f166 hD3 (own_b1' d_D0 d_D1) d_xb d_D1.1) hZ (hw _ (List.mem_of_getElem? (i := 128) rfl)) (hw _ (List.mem_of_getElem? (i := 70) rfl)) (by decide) (by decide)) q171a q171c (g := (mkF m 112 #[.val (.int nn), .val (.long dd), .second, .val (.int ga), .val (.int gb), .val (.int va), .val (.int vb), .val (.int (3 : Int32)), .val (.long D0), .second, .val (.long D1), .second, .val (.long D2), .second, .val (.double xa), .second, .val (.double xb), .second, .val (.double xc), .second, .val (.ref o1), .val (.ref o3), .val (.ref o5), .val (.ref nb6), .unset, .unset] [(.double xb), (.ref o3), (.ref nb6)])) rfl (by rw [hml]; rfl) (argsL := [(.ref o3), (.double xb)]) (rest := []) (lenOf pd_16 rfl) rfl (by show 2 * 0 + _ ≤ _; exact Nat.le_of_eq rfl) (hb hby at_112) rfl rfl (by decide) (by decide) ?_
    rintro v170 T170 L170 X170 ⟨rfl, Nq170, Kq170, Eq170, Fd170, Fv170, Fs170, Aa170, Ab170⟩
    have N170 := Fr.app N148 Nq170
    have K170 : Keep h0 T170.heap [] := K148.trans Kq170 (allS (Or.inr sz_nb6) (allS (Or.inr sz_ta7) (allS (Or.inr sz_tb7) all0)))
    show own_Go p e below _ T170 (mkF m 115 #[.val (.int nn), .val (.long dd), .second, .val (.int ga), .val (.int gb), .val (.int va), .val (.int vb), .val (.int (3 : Int32)), .val (.long D0), .second, .val (.long D1), .second, .val (.long D2), .second, .val (.double xa), .second, .val (.double xb), .second, .val (.double xc), .second, .val (.ref o1), .val (.ref o3), .val (.ref o5), .val (.ref nb6), .unset, .unset] [])
    refine own_st (fun t_ k_ => XS.iload X170.here hx rfl (hb hby at_115) rfl k_) ?_
    show own_Go p e below _ T170 (mkF m 117 #[.val (.int nn), .val (.long dd), .second, .val (.int ga), .val (.int gb), .val (.int va), .val (.int vb), .val (.int (3 : Int32)), .val (.long D0), .second, .val (.long D1), .second, .val (.long D2), .second, .val (.double xa), .second, .val (.double xb), .second, .val (.double xc), .second, .val (.ref o1), .val (.ref o3), .val (.ref o5), .val (.ref nb6), .unset, .unset] [(.int (3 : Int32))])
    refine own_st (fun t_ k_ => XS.iconst X170.here hx rfl (hb hby at_117) k_) ?_
    show own_Go p e below _ T170 (mkF m 118 #[.val (.int nn), .val (.long dd), .second, .val (.int ga), .val (.int gb), .val (.int va), .val (.int vb), .val (.int (3 : Int32)), .val (.long D0), .second, .val (.long D1), .second, .val (.long D2), .second, .val (.double xa), .second, .val (.double xb), .second, .val (.double xc), .second, .val (.ref o1), .val (.ref o3), .val (.ref o5), .val (.ref nb6), .unset, .unset] [(.int (3 : Int32)), (.int (3 : Int32))])
    refine own_st (fun t_ k_ => XS.icmpNo X170.here hx rfl (hb hby at_118) rfl (by decide) k_) ?_
    show own_Go p e below _ T170 (mkF m 121 #[.val (.int nn), .val (.long dd), .second, .val (.int ga), .val (.int gb), .val (.int va), .val (.int vb), .val (.int (3 : Int32)), .val (.long D0), .second, .val (.long D1), .second, .val (.long D2), .second, .val (.double xa), .second, .val (.double xb), .second, .val (.double xc), .second, .val (.ref o1), .val (.ref o3), .val (.ref o5), .val (.ref nb6), .unset, .unset] [])
    refine own_st (fun t_ k_ => XS.aload X170.here hx rfl (hb hby at_121) rfl rfl k_) ?_
    show own_Go p e below _ T170 (mkF m 123 #[.val (.int nn), .val (.long dd), .second, .val (.int ga), .val (.int gb), .val (.int va), .val (.int vb), .val (.int (3 : Int32)), .val (.long D0), .second, .val (.long D1), .second, .val (.long D2), .second, .val (.double xa), .second, .val (.double xb), .second, .val (.double xc), .second, .val (.ref o1), .val (.ref o3), .val (.ref o5), .val (.ref nb6), .unset, .unset] [(.ref nb6)])
    refine own_st (fun t_ k_ => XS.aload X170.here hx rfl (hb hby at_123) rfl rfl k_) ?_
    show own_Go p e below _ T170 (mkF m 125 #[.val (.int nn), .val (.long dd), .second, .val (.int ga), .val (.int gb), .val (.int va), .val (.int vb), .val (.int (3 : Int32)), .val (.long D0), .second, .val (.long D1), .second, .val (.long D2), .second, .val (.double xa), .second, .val (.double xb), .second, .val (.double xc), .second, .val (.ref o1), .val (.ref o3), .val (.ref o5), .val (.ref nb6), .unset, .unset] [(.ref o5), (.ref nb6)])
    refine own_st (fun t_ k_ => XS.dload X170.here hx rfl (hb hby at_125) rfl k_) ?_
    show own_Go p e below _ T170 (mkF m 127 #[.val (.int nn), .val (.long dd), .second, .val (.int ga), .val (.int gb), .val (.int va), .val (.int vb), .val (.int (3 : Int32)), .val (.long D0), .second, .val (.long D1), .second, .val (.long D2), .second, .val (.double xa), .second, .val (.double xb), .second, .val (.double xc), .second, .val (.ref o1), .val (.ref o3), .val (.ref o5), .val (.ref nb6), .unset, .unset] [(.double xc), (.ref o5), (.ref nb6)])
    have f172 := (Fld.ext E6 Fy5)
    have ne173 : o5 ≠ nb6 := (Nat.ne_of_lt (Nat.lt_of_lt_of_le Eo5.lt (Nat.le_of_eq g6.symm)))
    have f174 := (f172.keep Kq7 (ninS ne173 nin0))
    have f176 := (Exa.ext E6 Eo5)
    have ne175 : o5 ≠ tb7 := (Nat.ne_of_lt (Nat.lt_of_lt_of_le f176.lt gb7))
    have ne177 : o5 ≠ ta7 := (Nat.ne_of_lt (Nat.lt_of_lt_of_le f176.lt ga7))
    have f178 := (f174.keep Kq148 (ninS ne173 (ninS ne177 (ninS ne175 nin0))))
    have f179 := (f178.keep Kq170 (ninS ne173 (ninS ne177 (ninS ne175 nin0))))
    have f180 := (Fld.ext E6 Fm5)
    have f181 := (f180.keep Kq7 (ninS ne173 nin0))
    have f182 := (f181.keep Kq148 (ninS ne173 (ninS ne177 (ninS ne175 nin0))))
    have f183 := (f182.keep Kq170 (ninS ne173 (ninS ne177 (ninS ne175 nin0))))
    have f184 := (Fld.ext E6 Fd5)
    have f185 := (f184.keep Kq7 (ninS ne173 nin0))
    have f186 := (f185.keep Kq148 (ninS ne173 (ninS ne177 (ninS ne175 nin0))))
    have f187 := (f186.keep Kq170 (ninS ne173 (ninS ne177 (ninS ne175 nin0))))
    have f188 := (f167.keep Kq170 (allS g_nb6 (allS g_ta7 (allS g_tb7 all0))))
    have f189 := (f176.keep Kq7)
    have f190 := (f189.keep Kq148)
    have f191 := (f190.keep Kq170)
    obtain ⟨cq193, kq193, q193a, q193b, q193c⟩ := isOf hZ rfl Eq170
    refine own_callV X170 hx (y := (⟨"com/example/hebelwerk/hebelwerk/engine/DatedValues$Builder", "add", "(Ljava/time/LocalDate;D)V"⟩ : MethodName)) (z := (⟨"com/example/hebelwerk/hebelwerk/engine/DatedValues$Builder", "add", "(Ljava/time/LocalDate;D)V"⟩ : MethodName)) hown (mvT hZ (hw _ (List.mem_of_getElem? (i := 124) rfl))) (mvT hZ (hw _ (List.mem_of_getElem? (i := 125) rfl))) (notFace_of_selects (args := #[]) (mvT hZ (hw _ (List.mem_of_getElem? (i := 127) rfl)))) (mvT hZ (hw _ (List.mem_of_getElem? (i := 127) rfl))) (mvT hZ (hw _ (List.mem_of_getElem? (i := 126) rfl))) (by decide) (backOf (W := 0) (rmAD2 l Z a0 hw [] nb6 ta7 tb7 ka7 kb7 o5 y5 mo5 kd5 D2 xc D0 D1 (0 : Int64) xa xb (0 : UInt64) cf rg iso T170.heap n0 (Nat.le_trans Z0 K170.1) f188 SEp Ecf Frg Erg Fmn Fmx SIn Eis g_nb6 g_ta7 g_tb7 Eq170 Fd170 Fv170 Fs170 Aa170 Ab170 f191 f179 f183 f187 hD5 (own_b2 d_D0 d_D1 d_D2) d_xc d_D2.1) hZ (hw _ (List.mem_of_getElem? (i := 128) rfl)) (hw _ (List.mem_of_getElem? (i := 70) rfl)) (by decide) (by decide)) q193a q193c (g := (mkF m 127 #[.val (.int nn), .val (.long dd), .second, .val (.int ga), .val (.int gb), .val (.int va), .val (.int vb), .val (.int (3 : Int32)), .val (.long D0), .second, .val (.long D1), .second, .val (.long D2), .second, .val (.double xa), .second, .val (.double xb), .second, .val (.double xc), .second, .val (.ref o1), .val (.ref o3), .val (.ref o5), .val (.ref nb6), .unset, .unset] [(.double xc), (.ref o5), (.ref nb6)])) rfl (by rw [hml]; rfl) (argsL := [(.ref o5), (.double xc)]) (rest := []) (lenOf pd_16 rfl) rfl (by show 2 * 0 + _ ≤ _; exact Nat.le_of_eq rfl) (hb hby at_127) rfl rfl (by decide) (by decide) ?_
    rintro v192 T192 L192 X192 ⟨rfl, Nq192, Kq192, Eq192, Fd192, Fv192, Fs192, Aa192, Ab192⟩
    have N192 := Fr.app N170 Nq192
    have K192 : Keep h0 T192.heap [] := K170.trans Kq192 (allS (Or.inr sz_nb6) (allS (Or.inr sz_ta7) (allS (Or.inr sz_tb7) all0)))
    show own_Go p e below _ T192 (mkF m 130 #[.val (.int nn), .val (.long dd), .second, .val (.int ga), .val (.int gb), .val (.int va), .val (.int vb), .val (.int (3 : Int32)), .val (.long D0), .second, .val (.long D1), .second, .val (.long D2), .second, .val (.double xa), .second, .val (.double xb), .second, .val (.double xc), .second, .val (.ref o1), .val (.ref o3), .val (.ref o5), .val (.ref nb6), .unset, .unset] [])
    refine own_st (fun t_ k_ => XS.aload X192.here hx rfl (hb hby at_130) rfl rfl k_) ?_
    show own_Go p e below _ T192 (mkF m 132 #[.val (.int nn), .val (.long dd), .second, .val (.int ga), .val (.int gb), .val (.int va), .val (.int vb), .val (.int (3 : Int32)), .val (.long D0), .second, .val (.long D1), .second, .val (.long D2), .second, .val (.double xa), .second, .val (.double xb), .second, .val (.double xc), .second, .val (.ref o1), .val (.ref o3), .val (.ref o5), .val (.ref nb6), .unset, .unset] [(.ref nb6)])
    obtain ⟨cq195, kq195, q195a, q195b, q195c⟩ := isOf hZ rfl Eq192
    refine own_callV X192 hx (y := (⟨"com/example/hebelwerk/hebelwerk/engine/DatedValues$Builder", "build", "()Lcom/example/hebelwerk/hebelwerk/engine/DatedValues;"⟩ : MethodName)) (z := (⟨"com/example/hebelwerk/hebelwerk/engine/DatedValues$Builder", "build", "()Lcom/example/hebelwerk/hebelwerk/engine/DatedValues;"⟩ : MethodName)) hown (mvT hZ (hw _ (List.mem_of_getElem? (i := 81) rfl))) (mvT hZ (hw _ (List.mem_of_getElem? (i := 82) rfl))) (notFace_of_selects (args := #[]) (mvT hZ (hw _ (List.mem_of_getElem? (i := 84) rfl)))) (mvT hZ (hw _ (List.mem_of_getElem? (i := 84) rfl))) (mvT hZ (hw _ (List.mem_of_getElem? (i := 83) rfl))) (by decide) (backOf (W := 0) (rmBD3 l Z a0 hw [] nb6 ta7 tb7 ka7 kb7 D0 D1 D2 xa xb xc T192.heap n0 (Nat.le_trans Z0 K192.1) Eq192 Fd192 Fv192 Fs192 Aa192 Ab192) hZ (hw _ (List.mem_of_getElem? (i := 85) rfl)) (hw _ (List.mem_of_getElem? (i := 70) rfl)) (by decide) (by decide)) q195a q195c (g := (mkF m 132 #[.val (.int nn), .val (.long dd), .second, .val (.int ga), .val (.int gb), .val (.int va), .val (.int vb), .val (.int (3 : Int32)), .val (.long D0), .second, .val (.long D1), .second, .val (.long D2), .second, .val (.double xa), .second, .val (.double xb), .second, .val (.double xc), .second, .val (.ref o1), .val (.ref o3), .val (.ref o5), .val (.ref nb6), .unset, .unset] [(.ref nb6)])) rfl (by rw [hml]; rfl) (argsL := []) (rest := []) (lenOf pd_14 rfl) rfl (by show 2 * 0 + _ ≤ _; exact Nat.le_of_eq rfl) (hb hby at_132) rfl rfl (by decide) (by decide) ?_
    rintro v194 T194 L194 X194 ⟨o194, ta194, tb194, ka194, kb194, rfl, Nq194, Kq194, Eo194, Fd194, Fv194, Aa194, Ab194⟩
    have N194 := Fr.app N192 Nq194
    have K194 : Keep h0 T194.heap [] := K192.trans Kq194 all0
    show own_Go p e below _ T194 (mkF m 135 #[.val (.int nn), .val (.long dd), .second, .val (.int ga), .val (.int gb), .val (.int va), .val (.int vb), .val (.int (3 : Int32)), .val (.long D0), .second, .val (.long D1), .second, .val (.long D2), .second, .val (.double xa), .second, .val (.double xb), .second, .val (.double xc), .second, .val (.ref o1), .val (.ref o3), .val (.ref o5), .val (.ref nb6), .unset, .unset] [(.ref o194)])
    refine own_st (fun t_ k_ => XS.astore X194.here hx rfl (hb hby at_135) rfl rfl (l' := #[.val (.int nn), .val (.long dd), .second, .val (.int ga), .val (.int gb), .val (.int va), .val (.int vb), .val (.int (3 : Int32)), .val (.long D0), .second, .val (.long D1), .second, .val (.long D2), .second, .val (.double xa), .second, .val (.double xb), .second, .val (.double xc), .second, .val (.ref o1), .val (.ref o3), .val (.ref o5), .val (.ref nb6), .val (.ref o194), .unset]) rfl k_) ?_
    show own_Go p e below _ T194 (mkF m 137 #[.val (.int nn), .val (.long dd), .second, .val (.int ga), .val (.int gb), .val (.int va), .val (.int vb), .val (.int (3 : Int32)), .val (.long D0), .second, .val (.long D1), .second, .val (.long D2), .second, .val (.double xa), .second, .val (.double xb), .second, .val (.double xc), .second, .val (.ref o1), .val (.ref o3), .val (.ref o5), .val (.ref nb6), .val (.ref o194), .unset] [])
    refine own_st (fun t_ k_ => XS.aload X194.here hx rfl (hb hby at_137) rfl rfl k_) ?_
    show own_Go p e below _ T194 (mkF m 139 #[.val (.int nn), .val (.long dd), .second, .val (.int ga), .val (.int gb), .val (.int va), .val (.int vb), .val (.int (3 : Int32)), .val (.long D0), .second, .val (.long D1), .second, .val (.long D2), .second, .val (.double xa), .second, .val (.double xb), .second, .val (.double xc), .second, .val (.ref o1), .val (.ref o3), .val (.ref o5), .val (.ref nb6), .val (.ref o194), .unset] [(.ref o194)])
    obtain ⟨cq197, kq197, q197a, q197b, q197c⟩ := isOf hZ rfl Eo194
    refine own_callV X194 hx (y := (⟨"com/example/hebelwerk/hebelwerk/engine/DatedValues", "size", "()I"⟩ : MethodName)) (z := (⟨"com/example/hebelwerk/hebelwerk/engine/DatedValues", "size", "()I"⟩ : MethodName)) hown (mvT hZ (hw _ (List.mem_of_getElem? (i := 114) rfl))) (mvT hZ (hw _ (List.mem_of_getElem? (i := 115) rfl))) (notFace_of_selects (args := #[]) (mvT hZ (hw _ (List.mem_of_getElem? (i := 117) rfl)))) (mvT hZ (hw _ (List.mem_of_getElem? (i := 117) rfl))) (mvT hZ (hw _ (List.mem_of_getElem? (i := 116) rfl))) (by decide) (backOf (W := 0) (rmSI3 l Z a0 hw [] o194 ta194 ka194 D0 D1 D2 T194.heap n0 (Nat.le_trans Z0 K194.1) Fd194 Aa194) hZ (hw _ (List.mem_of_getElem? (i := 118) rfl)) (hw _ (List.mem_of_getElem? (i := 88) rfl)) (by decide) (by decide)) q197a q197c (g := (mkF m 139 #[.val (.int nn), .val (.long dd), .second, .val (.int ga), .val (.int gb), .val (.int va), .val (.int vb), .val (.int (3 : Int32)), .val (.long D0), .second, .val (.long D1), .second, .val (.long D2), .second, .val (.double xa), .second, .val (.double xb), .second, .val (.double xc), .second, .val (.ref o1), .val (.ref o3), .val (.ref o5), .val (.ref nb6), .val (.ref o194), .unset] [(.ref o194)])) rfl (by rw [hml]; rfl) (argsL := []) (rest := []) (lenOf pd_15 rfl) rfl (by show 2 * 0 + _ ≤ _; exact Nat.le_of_eq rfl) (hb hby at_139) rfl rfl (by decide) (by decide) ?_
    rintro v196 T196 L196 X196 ⟨rfl, Nq196, hh196⟩
    have N196 := Fr.app N194 Nq196
    show own_Go p e below _ T196 (mkF m 142 #[.val (.int nn), .val (.long dd), .second, .val (.int ga), .val (.int gb), .val (.int va), .val (.int vb), .val (.int (3 : Int32)), .val (.long D0), .second, .val (.long D1), .second, .val (.long D2), .second, .val (.double xa), .second, .val (.double xb), .second, .val (.double xc), .second, .val (.ref o1), .val (.ref o3), .val (.ref o5), .val (.ref nb6), .val (.ref o194), .unset] [(.int (3 : Int32))])
    refine own_st (fun t_ k_ => XS.iload X196.here hx rfl (hb hby at_142) rfl k_) ?_
    show own_Go p e below _ T196 (mkF m 144 #[.val (.int nn), .val (.long dd), .second, .val (.int ga), .val (.int gb), .val (.int va), .val (.int vb), .val (.int (3 : Int32)), .val (.long D0), .second, .val (.long D1), .second, .val (.long D2), .second, .val (.double xa), .second, .val (.double xb), .second, .val (.double xc), .second, .val (.ref o1), .val (.ref o3), .val (.ref o5), .val (.ref nb6), .val (.ref o194), .unset] [(.int (3 : Int32)), (.int (3 : Int32))])
    refine own_st (fun t_ k_ => XS.icmpNo X196.here hx rfl (hb hby at_144) rfl (by decide) k_) ?_
    show own_Go p e below _ T196 (mkF m 147 #[.val (.int nn), .val (.long dd), .second, .val (.int ga), .val (.int gb), .val (.int va), .val (.int vb), .val (.int (3 : Int32)), .val (.long D0), .second, .val (.long D1), .second, .val (.long D2), .second, .val (.double xa), .second, .val (.double xb), .second, .val (.double xc), .second, .val (.ref o1), .val (.ref o3), .val (.ref o5), .val (.ref nb6), .val (.ref o194), .unset] [])
    refine own_st (fun t_ k_ => XS.aload X196.here hx rfl (hb hby at_147) rfl rfl k_) ?_
    show own_Go p e below _ T196 (mkF m 149 #[.val (.int nn), .val (.long dd), .second, .val (.int ga), .val (.int gb), .val (.int va), .val (.int vb), .val (.int (3 : Int32)), .val (.long D0), .second, .val (.long D1), .second, .val (.long D2), .second, .val (.double xa), .second, .val (.double xb), .second, .val (.double xc), .second, .val (.ref o1), .val (.ref o3), .val (.ref o5), .val (.ref nb6), .val (.ref o194), .unset] [(.ref o194)])
    obtain ⟨cq199, kq199, q199a, q199b, q199c⟩ := isOf hZ hh196 Eo194
    refine own_callV X196 hx (y := (⟨"com/example/hebelwerk/hebelwerk/engine/DatedValues", "isEmpty", "()Z"⟩ : MethodName)) (z := (⟨"com/example/hebelwerk/hebelwerk/engine/DatedValues", "isEmpty", "()Z"⟩ : MethodName)) hown (mvT hZ (hw _ (List.mem_of_getElem? (i := 119) rfl))) (mvT hZ (hw _ (List.mem_of_getElem? (i := 120) rfl))) (notFace_of_selects (args := #[]) (mvT hZ (hw _ (List.mem_of_getElem? (i := 122) rfl)))) (mvT hZ (hw _ (List.mem_of_getElem? (i := 122) rfl))) (mvT hZ (hw _ (List.mem_of_getElem? (i := 121) rfl))) (by decide) (backOf (W := 0) (rmIS3 l Z a0 hw [] o194 ta194 ka194 D0 D1 D2 T194.heap n0 (Nat.le_trans Z0 K194.1) Fd194 Aa194) hZ (hw _ (List.mem_of_getElem? (i := 123) rfl)) (hw _ (List.mem_of_getElem? (i := 88) rfl)) (by decide) (by decide)) q199a q199c (g := (mkF m 149 #[.val (.int nn), .val (.long dd), .second, .val (.int ga), .val (.int gb), .val (.int va), .val (.int vb), .val (.int (3 : Int32)), .val (.long D0), .second, .val (.long D1), .second, .val (.long D2), .second, .val (.double xa), .second, .val (.double xb), .second, .val (.double xc), .second, .val (.ref o1), .val (.ref o3), .val (.ref o5), .val (.ref nb6), .val (.ref o194), .unset] [(.ref o194)])) rfl (by rw [hml]; rfl) (argsL := []) (rest := []) (lenOf pd_6 rfl) rfl (by show 2 * 0 + _ ≤ _; exact Nat.le_of_eq rfl) (hb hby at_149) rfl hh196 (by decide) (by decide) ?_
    rintro v198 T198 L198 X198 ⟨rfl, Nq198, hh198⟩
    have N198 := Fr.app N196 Nq198
    show own_Go p e below _ T198 (mkF m 152 #[.val (.int nn), .val (.long dd), .second, .val (.int ga), .val (.int gb), .val (.int va), .val (.int vb), .val (.int (3 : Int32)), .val (.long D0), .second, .val (.long D1), .second, .val (.long D2), .second, .val (.double xa), .second, .val (.double xb), .second, .val (.double xc), .second, .val (.ref o1), .val (.ref o3), .val (.ref o5), .val (.ref nb6), .val (.ref o194), .unset] [(.int (0 : Int32))])
    refine own_st (fun t_ k_ => XS.iload X198.here hx rfl (hb hby at_152) rfl k_) ?_
    show own_Go p e below _ T198 (mkF m 154 #[.val (.int nn), .val (.long dd), .second, .val (.int ga), .val (.int gb), .val (.int va), .val (.int vb), .val (.int (3 : Int32)), .val (.long D0), .second, .val (.long D1), .second, .val (.long D2), .second, .val (.double xa), .second, .val (.double xb), .second, .val (.double xc), .second, .val (.ref o1), .val (.ref o3), .val (.ref o5), .val (.ref nb6), .val (.ref o194), .unset] [(.int (3 : Int32)), (.int (0 : Int32))])
    refine own_st (fun t_ k_ => XS.ifYes X198.here hx rfl (pc0 := 154) (pc' := 161) rfl (hb hby at_154) rfl (by decide) (by decide) (by decide) k_) ?_
    show own_Go p e below _ T198 (mkF m 161 #[.val (.int nn), .val (.long dd), .second, .val (.int ga), .val (.int gb), .val (.int va), .val (.int vb), .val (.int (3 : Int32)), .val (.long D0), .second, .val (.long D1), .second, .val (.long D2), .second, .val (.double xa), .second, .val (.double xb), .second, .val (.double xc), .second, .val (.ref o1), .val (.ref o3), .val (.ref o5), .val (.ref nb6), .val (.ref o194), .unset] [(.int (0 : Int32))])
    refine own_st (fun t_ k_ => XS.iconst X198.here hx rfl (hb hby at_161) k_) ?_
    show own_Go p e below _ T198 (mkF m 162 #[.val (.int nn), .val (.long dd), .second, .val (.int ga), .val (.int gb), .val (.int va), .val (.int vb), .val (.int (3 : Int32)), .val (.long D0), .second, .val (.long D1), .second, .val (.long D2), .second, .val (.double xa), .second, .val (.double xb), .second, .val (.double xc), .second, .val (.ref o1), .val (.ref o3), .val (.ref o5), .val (.ref nb6), .val (.ref o194), .unset] [(.int (0 : Int32)), (.int (0 : Int32))])
    refine own_st (fun t_ k_ => XS.icmpNo X198.here hx rfl (hb hby at_162) rfl (by decide) k_) ?_
    show own_Go p e below _ T198 (mkF m 165 #[.val (.int nn), .val (.long dd), .second, .val (.int ga), .val (.int gb), .val (.int va), .val (.int vb), .val (.int (3 : Int32)), .val (.long D0), .second, .val (.long D1), .second, .val (.long D2), .second, .val (.double xa), .second, .val (.double xb), .second, .val (.double xc), .second, .val (.ref o1), .val (.ref o3), .val (.ref o5), .val (.ref nb6), .val (.ref o194), .unset] [])
    refine own_st (fun t_ k_ => XS.iconst X198.here hx rfl (hb hby at_165) k_) ?_
    show own_Go p e below _ T198 (mkF m 166 #[.val (.int nn), .val (.long dd), .second, .val (.int ga), .val (.int gb), .val (.int va), .val (.int vb), .val (.int (3 : Int32)), .val (.long D0), .second, .val (.long D1), .second, .val (.long D2), .second, .val (.double xa), .second, .val (.double xb), .second, .val (.double xc), .second, .val (.ref o1), .val (.ref o3), .val (.ref o5), .val (.ref nb6), .val (.ref o194), .unset] [(.int (1 : Int32))])
    refine own_st (fun t_ k_ => XS.goto X198.here hx rfl (pc0 := 166) (pc' := 170) rfl (hb hby at_166) (by decide) (by decide) k_) ?_
    show own_Go p e below _ T198 (mkF m 170 #[.val (.int nn), .val (.long dd), .second, .val (.int ga), .val (.int gb), .val (.int va), .val (.int vb), .val (.int (3 : Int32)), .val (.long D0), .second, .val (.long D1), .second, .val (.long D2), .second, .val (.double xa), .second, .val (.double xb), .second, .val (.double xc), .second, .val (.ref o1), .val (.ref o3), .val (.ref o5), .val (.ref nb6), .val (.ref o194), .unset] [(.int (1 : Int32))])
    refine own_st (fun t_ k_ => XS.istore X198.here hx rfl (hb hby at_170) rfl (l' := #[.val (.int nn), .val (.long dd), .second, .val (.int ga), .val (.int gb), .val (.int va), .val (.int vb), .val (.int (3 : Int32)), .val (.long D0), .second, .val (.long D1), .second, .val (.long D2), .second, .val (.double xa), .second, .val (.double xb), .second, .val (.double xc), .second, .val (.ref o1), .val (.ref o3), .val (.ref o5), .val (.ref nb6), .val (.ref o194), .val (.int (1 : Int32))]) rfl k_) ?_
    show own_Go p e below _ T198 (mkF m 172 #[.val (.int nn), .val (.long dd), .second, .val (.int ga), .val (.int gb), .val (.int va), .val (.int vb), .val (.int (3 : Int32)), .val (.long D0), .second, .val (.long D1), .second, .val (.long D2), .second, .val (.double xa), .second, .val (.double xb), .second, .val (.double xc), .second, .val (.ref o1), .val (.ref o3), .val (.ref o5), .val (.ref nb6), .val (.ref o194), .val (.int (1 : Int32))] [])
    refine own_st (fun t_ k_ => XS.iload X198.here hx rfl (hb hby at_172) rfl k_) ?_
    show own_Go p e below _ T198 (mkF m 174 #[.val (.int nn), .val (.long dd), .second, .val (.int ga), .val (.int gb), .val (.int va), .val (.int vb), .val (.int (3 : Int32)), .val (.long D0), .second, .val (.long D1), .second, .val (.long D2), .second, .val (.double xa), .second, .val (.double xb), .second, .val (.double xc), .second, .val (.ref o1), .val (.ref o3), .val (.ref o5), .val (.ref nb6), .val (.ref o194), .val (.int (1 : Int32))] [(.int (1 : Int32))])
    refine own_st (fun t_ k_ => XS.ifNo X198.here hx rfl (hb hby at_174) rfl (by decide) k_) ?_
    show own_Go p e below _ T198 (mkF m 177 #[.val (.int nn), .val (.long dd), .second, .val (.int ga), .val (.int gb), .val (.int va), .val (.int vb), .val (.int (3 : Int32)), .val (.long D0), .second, .val (.long D1), .second, .val (.long D2), .second, .val (.double xa), .second, .val (.double xb), .second, .val (.double xc), .second, .val (.ref o1), .val (.ref o3), .val (.ref o5), .val (.ref nb6), .val (.ref o194), .val (.int (1 : Int32))] [])
    refine own_st (fun t_ k_ => XS.iload X198.here hx rfl (hb hby at_177) rfl k_) ?_
    show own_Go p e below _ T198 (mkF m 179 #[.val (.int nn), .val (.long dd), .second, .val (.int ga), .val (.int gb), .val (.int va), .val (.int vb), .val (.int (3 : Int32)), .val (.long D0), .second, .val (.long D1), .second, .val (.long D2), .second, .val (.double xa), .second, .val (.double xb), .second, .val (.double xc), .second, .val (.ref o1), .val (.ref o3), .val (.ref o5), .val (.ref nb6), .val (.ref o194), .val (.int (1 : Int32))] [(.int (3 : Int32))])
    refine own_st (fun t_ k_ => XS.iconst X198.here hx rfl (hb hby at_179) k_) ?_
    show own_Go p e below _ T198 (mkF m 180 #[.val (.int nn), .val (.long dd), .second, .val (.int ga), .val (.int gb), .val (.int va), .val (.int vb), .val (.int (3 : Int32)), .val (.long D0), .second, .val (.long D1), .second, .val (.long D2), .second, .val (.double xa), .second, .val (.double xb), .second, .val (.double xc), .second, .val (.ref o1), .val (.ref o3), .val (.ref o5), .val (.ref nb6), .val (.ref o194), .val (.int (1 : Int32))] [(.int (1 : Int32)), (.int (3 : Int32))])
    refine own_st (fun t_ k_ => XS.icmpNo X198.here hx rfl (hb hby at_180) rfl (by decide) k_) ?_
    show own_Go p e below _ T198 (mkF m 183 #[.val (.int nn), .val (.long dd), .second, .val (.int ga), .val (.int gb), .val (.int va), .val (.int vb), .val (.int (3 : Int32)), .val (.long D0), .second, .val (.long D1), .second, .val (.long D2), .second, .val (.double xa), .second, .val (.double xb), .second, .val (.double xc), .second, .val (.ref o1), .val (.ref o3), .val (.ref o5), .val (.ref nb6), .val (.ref o194), .val (.int (1 : Int32))] [])
    refine own_st (fun t_ k_ => XS.aload X198.here hx rfl (hb hby at_183) rfl rfl k_) ?_
    show own_Go p e below _ T198 (mkF m 185 #[.val (.int nn), .val (.long dd), .second, .val (.int ga), .val (.int gb), .val (.int va), .val (.int vb), .val (.int (3 : Int32)), .val (.long D0), .second, .val (.long D1), .second, .val (.long D2), .second, .val (.double xa), .second, .val (.double xb), .second, .val (.double xc), .second, .val (.ref o1), .val (.ref o3), .val (.ref o5), .val (.ref nb6), .val (.ref o194), .val (.int (1 : Int32))] [(.ref o194)])
    refine own_st (fun t_ k_ => XS.iconst X198.here hx rfl (hb hby at_185) k_) ?_
    show own_Go p e below _ T198 (mkF m 186 #[.val (.int nn), .val (.long dd), .second, .val (.int ga), .val (.int gb), .val (.int va), .val (.int vb), .val (.int (3 : Int32)), .val (.long D0), .second, .val (.long D1), .second, .val (.long D2), .second, .val (.double xa), .second, .val (.double xb), .second, .val (.double xc), .second, .val (.ref o1), .val (.ref o3), .val (.ref o5), .val (.ref nb6), .val (.ref o194), .val (.int (1 : Int32))] [(.int (0 : Int32)), (.ref o194)])
    have f200 := (f188.keep Kq192 (allS g_nb6 (allS g_ta7 (allS g_tb7 all0))))
    have f201 := (f200.keep Kq194 all0)
    obtain ⟨cq203, kq203, q203a, q203b, q203c⟩ := isOf hZ hh198 Eo194
    refine own_callV X198 hx (y := (⟨"com/example/hebelwerk/hebelwerk/engine/DatedValues", "date", "(I)Ljava/time/LocalDate;"⟩ : MethodName)) (z := (⟨"com/example/hebelwerk/hebelwerk/engine/DatedValues", "date", "(I)Ljava/time/LocalDate;"⟩ : MethodName)) hown (mvT hZ (hw _ (List.mem_of_getElem? (i := 149) rfl))) (mvT hZ (hw _ (List.mem_of_getElem? (i := 150) rfl))) (notFace_of_selects (args := #[]) (mvT hZ (hw _ (List.mem_of_getElem? (i := 152) rfl)))) (mvT hZ (hw _ (List.mem_of_getElem? (i := 152) rfl))) (mvT hZ (hw _ (List.mem_of_getElem? (i := 151) rfl))) (by decide) (backOf (W := 0) (rmDT30 l Z a0 hw [] o194 ta194 ka194 D0 D1 D2 cf rg iso T194.heap n0 (Nat.le_trans Z0 K194.1) f201 SEp Ecf Frg Erg Fmn Fmx SIn Eis Fd194 Aa194 (own_b0 d_D0)) hZ (hw _ (List.mem_of_getElem? (i := 153) rfl)) (hw _ (List.mem_of_getElem? (i := 88) rfl)) (by decide) (by decide)) q203a q203c (g := (mkF m 186 #[.val (.int nn), .val (.long dd), .second, .val (.int ga), .val (.int gb), .val (.int va), .val (.int vb), .val (.int (3 : Int32)), .val (.long D0), .second, .val (.long D1), .second, .val (.long D2), .second, .val (.double xa), .second, .val (.double xb), .second, .val (.double xc), .second, .val (.ref o1), .val (.ref o3), .val (.ref o5), .val (.ref nb6), .val (.ref o194), .val (.int (1 : Int32))] [(.int (0 : Int32)), (.ref o194)])) rfl (by rw [hml]; rfl) (argsL := [(.int (0 : Int32))]) (rest := []) (lenOf pd_17 rfl) rfl (by show 2 * 0 + _ ≤ _; exact Nat.le_of_eq rfl) (hb hby at_186) rfl hh198 (by decide) (by decide) ?_
    rintro v202 T202 L202 X202 ⟨o202, y202, mo202, kd202, rfl, Nq202, Kq202, go202, g_o202, Eo202, Fy202, Fm202, Fd202, hD202⟩
    have N202 := Fr.app N198 Nq202
    have K202 : Keep h0 T202.heap [] := K194.trans Kq202 all0
    have sz_o202 : h0.size ≤ o202 := Nat.le_trans K194.1 go202
    show own_Go p e below _ T202 (mkF m 189 #[.val (.int nn), .val (.long dd), .second, .val (.int ga), .val (.int gb), .val (.int va), .val (.int vb), .val (.int (3 : Int32)), .val (.long D0), .second, .val (.long D1), .second, .val (.long D2), .second, .val (.double xa), .second, .val (.double xb), .second, .val (.double xc), .second, .val (.ref o1), .val (.ref o3), .val (.ref o5), .val (.ref nb6), .val (.ref o194), .val (.int (1 : Int32))] [(.ref o202)])
    have f204 := (f201.keep Kq202 all0)
    obtain ⟨cq206, kq206, q206a, q206b, q206c⟩ := isOf hZ rfl Eo202
    refine own_callV X202 hx (y := (⟨"java/time/LocalDate", "toEpochDay", "()J"⟩ : MethodName)) (z := (⟨"java/time/LocalDate", "toEpochDay", "()J"⟩ : MethodName)) hown (mvT hZ (hw _ (List.mem_of_getElem? (i := 155) rfl))) (mvT hZ (hw _ (List.mem_of_getElem? (i := 130) rfl))) (notFace_of_selects (args := #[]) (mvT hZ (hw _ (List.mem_of_getElem? (i := 132) rfl)))) (mvT hZ (hw _ (List.mem_of_getElem? (i := 132) rfl))) (mvT hZ (hw _ (List.mem_of_getElem? (i := 131) rfl))) (by decide) (backOf (W := 0) (rmTE l Z a0 hw [] o202 y202 mo202 kd202 D0 cf rg iso T202.heap n0 (Nat.le_trans Z0 K202.1) f204 SEp Ecf Frg Erg Fmn Fmx SIn Eis Eo202 Fy202 Fm202 Fd202 hD202 (own_b0 d_D0)) hZ (hw _ (List.mem_of_getElem? (i := 133) rfl)) (hw _ (List.mem_of_getElem? (i := 4) rfl)) (by decide) (by decide)) q206a q206c (g := (mkF m 189 #[.val (.int nn), .val (.long dd), .second, .val (.int ga), .val (.int gb), .val (.int va), .val (.int vb), .val (.int (3 : Int32)), .val (.long D0), .second, .val (.long D1), .second, .val (.long D2), .second, .val (.double xa), .second, .val (.double xb), .second, .val (.double xc), .second, .val (.ref o1), .val (.ref o3), .val (.ref o5), .val (.ref nb6), .val (.ref o194), .val (.int (1 : Int32))] [(.ref o202)])) rfl (by rw [hml]; rfl) (argsL := []) (rest := []) (lenOf pd_0 rfl) rfl (by show 2 * 0 + _ ≤ _; exact Nat.le_of_eq rfl) (hb hby at_189) rfl rfl (by decide) (by decide) ?_
    rintro v205 T205 L205 X205 ⟨rfl, Nq205, hh205⟩
    have N205 := Fr.app N202 Nq205
    show own_Go p e below _ T205 (mkF m 192 #[.val (.int nn), .val (.long dd), .second, .val (.int ga), .val (.int gb), .val (.int va), .val (.int vb), .val (.int (3 : Int32)), .val (.long D0), .second, .val (.long D1), .second, .val (.long D2), .second, .val (.double xa), .second, .val (.double xb), .second, .val (.double xc), .second, .val (.ref o1), .val (.ref o3), .val (.ref o5), .val (.ref nb6), .val (.ref o194), .val (.int (1 : Int32))] [(.long D0)])
    refine own_st (fun t_ k_ => XS.lload X205.here hx rfl (hb hby at_192) rfl k_) ?_
    show own_Go p e below _ T205 (mkF m 194 #[.val (.int nn), .val (.long dd), .second, .val (.int ga), .val (.int gb), .val (.int va), .val (.int vb), .val (.int (3 : Int32)), .val (.long D0), .second, .val (.long D1), .second, .val (.long D2), .second, .val (.double xa), .second, .val (.double xb), .second, .val (.double xc), .second, .val (.ref o1), .val (.ref o3), .val (.ref o5), .val (.ref nb6), .val (.ref o194), .val (.int (1 : Int32))] [(.long D0), (.long D0)])
    refine own_st (fun t_ k_ => XS.lcmp X205.here hx rfl (hb hby at_194) rfl k_) ?_
    show own_Go p e below _ T205 (mkF m 195 #[.val (.int nn), .val (.long dd), .second, .val (.int ga), .val (.int gb), .val (.int va), .val (.int vb), .val (.int (3 : Int32)), .val (.long D0), .second, .val (.long D1), .second, .val (.long D2), .second, .val (.double xa), .second, .val (.double xb), .second, .val (.double xc), .second, .val (.ref o1), .val (.ref o3), .val (.ref o5), .val (.ref nb6), .val (.ref o194), .val (.int (1 : Int32))] [(.int (lcmpW D0 D0))])
    refine own_st (fun t_ k_ => XS.ifNo X205.here hx rfl (hb hby at_195) rfl ((if0 _ _).trans (teq qD0).2) k_) ?_
    show own_Go p e below _ T205 (mkF m 198 #[.val (.int nn), .val (.long dd), .second, .val (.int ga), .val (.int gb), .val (.int va), .val (.int vb), .val (.int (3 : Int32)), .val (.long D0), .second, .val (.long D1), .second, .val (.long D2), .second, .val (.double xa), .second, .val (.double xb), .second, .val (.double xc), .second, .val (.ref o1), .val (.ref o3), .val (.ref o5), .val (.ref nb6), .val (.ref o194), .val (.int (1 : Int32))] [])
    refine own_st (fun t_ k_ => XS.aload X205.here hx rfl (hb hby at_198) rfl rfl k_) ?_
    show own_Go p e below _ T205 (mkF m 200 #[.val (.int nn), .val (.long dd), .second, .val (.int ga), .val (.int gb), .val (.int va), .val (.int vb), .val (.int (3 : Int32)), .val (.long D0), .second, .val (.long D1), .second, .val (.long D2), .second, .val (.double xa), .second, .val (.double xb), .second, .val (.double xc), .second, .val (.ref o1), .val (.ref o3), .val (.ref o5), .val (.ref nb6), .val (.ref o194), .val (.int (1 : Int32))] [(.ref o194)])
    refine own_st (fun t_ k_ => XS.iconst X205.here hx rfl (hb hby at_200) k_) ?_
    show own_Go p e below _ T205 (mkF m 201 #[.val (.int nn), .val (.long dd), .second, .val (.int ga), .val (.int gb), .val (.int va), .val (.int vb), .val (.int (3 : Int32)), .val (.long D0), .second, .val (.long D1), .second, .val (.long D2), .second, .val (.double xa), .second, .val (.double xb), .second, .val (.double xc), .second, .val (.ref o1), .val (.ref o3), .val (.ref o5), .val (.ref nb6), .val (.ref o194), .val (.int (1 : Int32))] [(.int (0 : Int32)), (.ref o194)])
    have f207 := (Fv194.keep Kq202 nin0)
    have f208 := (Ab194.keep Kq202 nin0)
    have f211 := (Eo194.keep Kq202)
    obtain ⟨cq210, kq210, q210a, q210b, q210c⟩ := isOf hZ hh205 f211
    refine own_callV X205 hx (y := (⟨"com/example/hebelwerk/hebelwerk/engine/DatedValues", "value", "(I)D"⟩ : MethodName)) (z := (⟨"com/example/hebelwerk/hebelwerk/engine/DatedValues", "value", "(I)D"⟩ : MethodName)) hown (mvT hZ (hw _ (List.mem_of_getElem? (i := 156) rfl))) (mvT hZ (hw _ (List.mem_of_getElem? (i := 157) rfl))) (notFace_of_selects (args := #[]) (mvT hZ (hw _ (List.mem_of_getElem? (i := 159) rfl)))) (mvT hZ (hw _ (List.mem_of_getElem? (i := 159) rfl))) (mvT hZ (hw _ (List.mem_of_getElem? (i := 158) rfl))) (by decide) (backOf (W := 0) (rmVL30 l Z a0 hw [] o194 tb194 kb194 xa xb xc T202.heap n0 (Nat.le_trans Z0 K202.1) f207 f208) hZ (hw _ (List.mem_of_getElem? (i := 160) rfl)) (hw _ (List.mem_of_getElem? (i := 88) rfl)) (by decide) (by decide)) q210a q210c (g := (mkF m 201 #[.val (.int nn), .val (.long dd), .second, .val (.int ga), .val (.int gb), .val (.int va), .val (.int vb), .val (.int (3 : Int32)), .val (.long D0), .second, .val (.long D1), .second, .val (.long D2), .second, .val (.double xa), .second, .val (.double xb), .second, .val (.double xc), .second, .val (.ref o1), .val (.ref o3), .val (.ref o5), .val (.ref nb6), .val (.ref o194), .val (.int (1 : Int32))] [(.int (0 : Int32)), (.ref o194)])) rfl (by rw [hml]; rfl) (argsL := [(.int (0 : Int32))]) (rest := []) (lenOf pd_18 rfl) rfl (by show 2 * 0 + _ ≤ _; exact Nat.le_of_eq rfl) (hb hby at_201) rfl hh205 (by decide) (by decide) ?_
    rintro v209 T209 L209 X209 ⟨rfl, Nq209, hh209⟩
    have N209 := Fr.app N205 Nq209
    show own_Go p e below _ T209 (mkF m 204 #[.val (.int nn), .val (.long dd), .second, .val (.int ga), .val (.int gb), .val (.int va), .val (.int vb), .val (.int (3 : Int32)), .val (.long D0), .second, .val (.long D1), .second, .val (.long D2), .second, .val (.double xa), .second, .val (.double xb), .second, .val (.double xc), .second, .val (.ref o1), .val (.ref o3), .val (.ref o5), .val (.ref nb6), .val (.ref o194), .val (.int (1 : Int32))] [(.double xa)])
    refine own_st (fun t_ k_ => XS.dload X209.here hx rfl (hb hby at_204) rfl k_) ?_
    show own_Go p e below _ T209 (mkF m 206 #[.val (.int nn), .val (.long dd), .second, .val (.int ga), .val (.int gb), .val (.int va), .val (.int vb), .val (.int (3 : Int32)), .val (.long D0), .second, .val (.long D1), .second, .val (.long D2), .second, .val (.double xa), .second, .val (.double xb), .second, .val (.double xc), .second, .val (.ref o1), .val (.ref o3), .val (.ref o5), .val (.ref nb6), .val (.ref o194), .val (.int (1 : Int32))] [(.double xa), (.double xa)])
    refine own_st (fun t_ k_ => XS.dcmpS X209.here hx rfl (hb hby at_206) rfl (v := (0 : Int32)) (dcmpV_self d_xa.noNaN _) k_) ?_
    show own_Go p e below _ T209 (mkF m 207 #[.val (.int nn), .val (.long dd), .second, .val (.int ga), .val (.int gb), .val (.int va), .val (.int vb), .val (.int (3 : Int32)), .val (.long D0), .second, .val (.long D1), .second, .val (.long D2), .second, .val (.double xa), .second, .val (.double xb), .second, .val (.double xc), .second, .val (.ref o1), .val (.ref o3), .val (.ref o5), .val (.ref nb6), .val (.ref o194), .val (.int (1 : Int32))] [(.int (0 : Int32))])
    refine own_st (fun t_ k_ => XS.ifNo X209.here hx rfl (hb hby at_207) rfl (by decide) k_) ?_
    show own_Go p e below _ T209 (mkF m 210 #[.val (.int nn), .val (.long dd), .second, .val (.int ga), .val (.int gb), .val (.int va), .val (.int vb), .val (.int (3 : Int32)), .val (.long D0), .second, .val (.long D1), .second, .val (.long D2), .second, .val (.double xa), .second, .val (.double xb), .second, .val (.double xc), .second, .val (.ref o1), .val (.ref o3), .val (.ref o5), .val (.ref nb6), .val (.ref o194), .val (.int (1 : Int32))] [])
    refine own_st (fun t_ k_ => XS.iconst X209.here hx rfl (hb hby at_210) k_) ?_
    show own_Go p e below _ T209 (mkF m 211 #[.val (.int nn), .val (.long dd), .second, .val (.int ga), .val (.int gb), .val (.int va), .val (.int vb), .val (.int (3 : Int32)), .val (.long D0), .second, .val (.long D1), .second, .val (.long D2), .second, .val (.double xa), .second, .val (.double xb), .second, .val (.double xc), .second, .val (.ref o1), .val (.ref o3), .val (.ref o5), .val (.ref nb6), .val (.ref o194), .val (.int (1 : Int32))] [(.int (1 : Int32))])
    refine own_st (fun t_ k_ => XS.goto X209.here hx rfl (pc0 := 211) (pc' := 215) rfl (hb hby at_211) (by decide) (by decide) k_) ?_
    show own_Go p e below _ T209 (mkF m 215 #[.val (.int nn), .val (.long dd), .second, .val (.int ga), .val (.int gb), .val (.int va), .val (.int vb), .val (.int (3 : Int32)), .val (.long D0), .second, .val (.long D1), .second, .val (.long D2), .second, .val (.double xa), .second, .val (.double xb), .second, .val (.double xc), .second, .val (.ref o1), .val (.ref o3), .val (.ref o5), .val (.ref nb6), .val (.ref o194), .val (.int (1 : Int32))] [(.int (1 : Int32))])
    refine own_st (fun t_ k_ => XS.istore X209.here hx rfl (hb hby at_215) rfl (l' := #[.val (.int nn), .val (.long dd), .second, .val (.int ga), .val (.int gb), .val (.int va), .val (.int vb), .val (.int (3 : Int32)), .val (.long D0), .second, .val (.long D1), .second, .val (.long D2), .second, .val (.double xa), .second, .val (.double xb), .second, .val (.double xc), .second, .val (.ref o1), .val (.ref o3), .val (.ref o5), .val (.ref nb6), .val (.ref o194), .val (.int (1 : Int32))]) rfl k_) ?_
    show own_Go p e below _ T209 (mkF m 217 #[.val (.int nn), .val (.long dd), .second, .val (.int ga), .val (.int gb), .val (.int va), .val (.int vb), .val (.int (3 : Int32)), .val (.long D0), .second, .val (.long D1), .second, .val (.long D2), .second, .val (.double xa), .second, .val (.double xb), .second, .val (.double xc), .second, .val (.ref o1), .val (.ref o3), .val (.ref o5), .val (.ref nb6), .val (.ref o194), .val (.int (1 : Int32))] [])
    refine own_st (fun t_ k_ => XS.iload X209.here hx rfl (hb hby at_217) rfl k_) ?_
    show own_Go p e below _ T209 (mkF m 219 #[.val (.int nn), .val (.long dd), .second, .val (.int ga), .val (.int gb), .val (.int va), .val (.int vb), .val (.int (3 : Int32)), .val (.long D0), .second, .val (.long D1), .second, .val (.long D2), .second, .val (.double xa), .second, .val (.double xb), .second, .val (.double xc), .second, .val (.ref o1), .val (.ref o3), .val (.ref o5), .val (.ref nb6), .val (.ref o194), .val (.int (1 : Int32))] [(.int (1 : Int32))])
    refine own_st (fun t_ k_ => XS.ifNo X209.here hx rfl (hb hby at_219) rfl (by decide) k_) ?_
    show own_Go p e below _ T209 (mkF m 222 #[.val (.int nn), .val (.long dd), .second, .val (.int ga), .val (.int gb), .val (.int va), .val (.int vb), .val (.int (3 : Int32)), .val (.long D0), .second, .val (.long D1), .second, .val (.long D2), .second, .val (.double xa), .second, .val (.double xb), .second, .val (.double xc), .second, .val (.ref o1), .val (.ref o3), .val (.ref o5), .val (.ref nb6), .val (.ref o194), .val (.int (1 : Int32))] [])
    refine own_st (fun t_ k_ => XS.iload X209.here hx rfl (hb hby at_222) rfl k_) ?_
    show own_Go p e below _ T209 (mkF m 224 #[.val (.int nn), .val (.long dd), .second, .val (.int ga), .val (.int gb), .val (.int va), .val (.int vb), .val (.int (3 : Int32)), .val (.long D0), .second, .val (.long D1), .second, .val (.long D2), .second, .val (.double xa), .second, .val (.double xb), .second, .val (.double xc), .second, .val (.ref o1), .val (.ref o3), .val (.ref o5), .val (.ref nb6), .val (.ref o194), .val (.int (1 : Int32))] [(.int (3 : Int32))])
    refine own_st (fun t_ k_ => XS.iconst X209.here hx rfl (hb hby at_224) k_) ?_
    show own_Go p e below _ T209 (mkF m 225 #[.val (.int nn), .val (.long dd), .second, .val (.int ga), .val (.int gb), .val (.int va), .val (.int vb), .val (.int (3 : Int32)), .val (.long D0), .second, .val (.long D1), .second, .val (.long D2), .second, .val (.double xa), .second, .val (.double xb), .second, .val (.double xc), .second, .val (.ref o1), .val (.ref o3), .val (.ref o5), .val (.ref nb6), .val (.ref o194), .val (.int (1 : Int32))] [(.int (2 : Int32)), (.int (3 : Int32))])
    refine own_st (fun t_ k_ => XS.icmpNo X209.here hx rfl (hb hby at_225) rfl (by decide) k_) ?_
    show own_Go p e below _ T209 (mkF m 228 #[.val (.int nn), .val (.long dd), .second, .val (.int ga), .val (.int gb), .val (.int va), .val (.int vb), .val (.int (3 : Int32)), .val (.long D0), .second, .val (.long D1), .second, .val (.long D2), .second, .val (.double xa), .second, .val (.double xb), .second, .val (.double xc), .second, .val (.ref o1), .val (.ref o3), .val (.ref o5), .val (.ref nb6), .val (.ref o194), .val (.int (1 : Int32))] [])
    refine own_st (fun t_ k_ => XS.aload X209.here hx rfl (hb hby at_228) rfl rfl k_) ?_
    show own_Go p e below _ T209 (mkF m 230 #[.val (.int nn), .val (.long dd), .second, .val (.int ga), .val (.int gb), .val (.int va), .val (.int vb), .val (.int (3 : Int32)), .val (.long D0), .second, .val (.long D1), .second, .val (.long D2), .second, .val (.double xa), .second, .val (.double xb), .second, .val (.double xc), .second, .val (.ref o1), .val (.ref o3), .val (.ref o5), .val (.ref nb6), .val (.ref o194), .val (.int (1 : Int32))] [(.ref o194)])
    refine own_st (fun t_ k_ => XS.iconst X209.here hx rfl (hb hby at_230) k_) ?_
    show own_Go p e below _ T209 (mkF m 231 #[.val (.int nn), .val (.long dd), .second, .val (.int ga), .val (.int gb), .val (.int va), .val (.int vb), .val (.int (3 : Int32)), .val (.long D0), .second, .val (.long D1), .second, .val (.long D2), .second, .val (.double xa), .second, .val (.double xb), .second, .val (.double xc), .second, .val (.ref o1), .val (.ref o3), .val (.ref o5), .val (.ref nb6), .val (.ref o194), .val (.int (1 : Int32))] [(.int (1 : Int32)), (.ref o194)])
    have f212 := (Fd194.keep Kq202 nin0)
    have f213 := (Aa194.keep Kq202 nin0)
    obtain ⟨cq215, kq215, q215a, q215b, q215c⟩ := isOf hZ hh209 f211
    refine own_callV X209 hx (y := (⟨"com/example/hebelwerk/hebelwerk/engine/DatedValues", "date", "(I)Ljava/time/LocalDate;"⟩ : MethodName)) (z := (⟨"com/example/hebelwerk/hebelwerk/engine/DatedValues", "date", "(I)Ljava/time/LocalDate;"⟩ : MethodName)) hown (mvT hZ (hw _ (List.mem_of_getElem? (i := 149) rfl))) (mvT hZ (hw _ (List.mem_of_getElem? (i := 150) rfl))) (notFace_of_selects (args := #[]) (mvT hZ (hw _ (List.mem_of_getElem? (i := 152) rfl)))) (mvT hZ (hw _ (List.mem_of_getElem? (i := 152) rfl))) (mvT hZ (hw _ (List.mem_of_getElem? (i := 151) rfl))) (by decide) (backOf (W := 0) (rmDT31 l Z a0 hw [] o194 ta194 ka194 D0 D1 D2 cf rg iso T202.heap n0 (Nat.le_trans Z0 K202.1) f204 SEp Ecf Frg Erg Fmn Fmx SIn Eis f212 f213 (own_b1' d_D0 d_D1)) hZ (hw _ (List.mem_of_getElem? (i := 153) rfl)) (hw _ (List.mem_of_getElem? (i := 88) rfl)) (by decide) (by decide)) q215a q215c (g := (mkF m 231 #[.val (.int nn), .val (.long dd), .second, .val (.int ga), .val (.int gb), .val (.int va), .val (.int vb), .val (.int (3 : Int32)), .val (.long D0), .second, .val (.long D1), .second, .val (.long D2), .second, .val (.double xa), .second, .val (.double xb), .second, .val (.double xc), .second, .val (.ref o1), .val (.ref o3), .val (.ref o5), .val (.ref nb6), .val (.ref o194), .val (.int (1 : Int32))] [(.int (1 : Int32)), (.ref o194)])) rfl (by rw [hml]; rfl) (argsL := [(.int (1 : Int32))]) (rest := []) (lenOf pd_17 rfl) rfl (by show 2 * 0 + _ ≤ _; exact Nat.le_of_eq rfl) (hb hby at_231) rfl hh209 (by decide) (by decide) ?_
    rintro v214 T214 L214 X214 ⟨o214, y214, mo214, kd214, rfl, Nq214, Kq214, go214, g_o214, Eo214, Fy214, Fm214, Fd214, hD214⟩
    have N214 := Fr.app N209 Nq214
    have K214 : Keep h0 T214.heap [] := K202.trans Kq214 all0
    have sz_o214 : h0.size ≤ o214 := Nat.le_trans K202.1 go214
    show own_Go p e below _ T214 (mkF m 234 #[.val (.int nn), .val (.long dd), .second, .val (.int ga), .val (.int gb), .val (.int va), .val (.int vb), .val (.int (3 : Int32)), .val (.long D0), .second, .val (.long D1), .second, .val (.long D2), .second, .val (.double xa), .second, .val (.double xb), .second, .val (.double xc), .second, .val (.ref o1), .val (.ref o3), .val (.ref o5), .val (.ref nb6), .val (.ref o194), .val (.int (1 : Int32))] [(.ref o214)])
    have f216 := (f204.keep Kq214 all0)
    obtain ⟨cq218, kq218, q218a, q218b, q218c⟩ := isOf hZ rfl Eo214
    refine own_callV X214 hx (y := (⟨"java/time/LocalDate", "toEpochDay", "()J"⟩ : MethodName)) (z := (⟨"java/time/LocalDate", "toEpochDay", "()J"⟩ : MethodName)) hown (mvT hZ (hw _ (List.mem_of_getElem? (i := 155) rfl))) (mvT hZ (hw _ (List.mem_of_getElem? (i := 130) rfl))) (notFace_of_selects (args := #[]) (mvT hZ (hw _ (List.mem_of_getElem? (i := 132) rfl)))) (mvT hZ (hw _ (List.mem_of_getElem? (i := 132) rfl))) (mvT hZ (hw _ (List.mem_of_getElem? (i := 131) rfl))) (by decide) (backOf (W := 0) (rmTE l Z a0 hw [] o214 y214 mo214 kd214 D1 cf rg iso T214.heap n0 (Nat.le_trans Z0 K214.1) f216 SEp Ecf Frg Erg Fmn Fmx SIn Eis Eo214 Fy214 Fm214 Fd214 hD214 (own_b1' d_D0 d_D1)) hZ (hw _ (List.mem_of_getElem? (i := 133) rfl)) (hw _ (List.mem_of_getElem? (i := 4) rfl)) (by decide) (by decide)) q218a q218c (g := (mkF m 234 #[.val (.int nn), .val (.long dd), .second, .val (.int ga), .val (.int gb), .val (.int va), .val (.int vb), .val (.int (3 : Int32)), .val (.long D0), .second, .val (.long D1), .second, .val (.long D2), .second, .val (.double xa), .second, .val (.double xb), .second, .val (.double xc), .second, .val (.ref o1), .val (.ref o3), .val (.ref o5), .val (.ref nb6), .val (.ref o194), .val (.int (1 : Int32))] [(.ref o214)])) rfl (by rw [hml]; rfl) (argsL := []) (rest := []) (lenOf pd_0 rfl) rfl (by show 2 * 0 + _ ≤ _; exact Nat.le_of_eq rfl) (hb hby at_234) rfl rfl (by decide) (by decide) ?_
    rintro v217 T217 L217 X217 ⟨rfl, Nq217, hh217⟩
    have N217 := Fr.app N214 Nq217
    show own_Go p e below _ T217 (mkF m 237 #[.val (.int nn), .val (.long dd), .second, .val (.int ga), .val (.int gb), .val (.int va), .val (.int vb), .val (.int (3 : Int32)), .val (.long D0), .second, .val (.long D1), .second, .val (.long D2), .second, .val (.double xa), .second, .val (.double xb), .second, .val (.double xc), .second, .val (.ref o1), .val (.ref o3), .val (.ref o5), .val (.ref nb6), .val (.ref o194), .val (.int (1 : Int32))] [(.long D1)])
    refine own_st (fun t_ k_ => XS.lload X217.here hx rfl (hb hby at_237) rfl k_) ?_
    show own_Go p e below _ T217 (mkF m 239 #[.val (.int nn), .val (.long dd), .second, .val (.int ga), .val (.int gb), .val (.int va), .val (.int vb), .val (.int (3 : Int32)), .val (.long D0), .second, .val (.long D1), .second, .val (.long D2), .second, .val (.double xa), .second, .val (.double xb), .second, .val (.double xc), .second, .val (.ref o1), .val (.ref o3), .val (.ref o5), .val (.ref nb6), .val (.ref o194), .val (.int (1 : Int32))] [(.long D1), (.long D1)])
    refine own_st (fun t_ k_ => XS.lcmp X217.here hx rfl (hb hby at_239) rfl k_) ?_
    show own_Go p e below _ T217 (mkF m 240 #[.val (.int nn), .val (.long dd), .second, .val (.int ga), .val (.int gb), .val (.int va), .val (.int vb), .val (.int (3 : Int32)), .val (.long D0), .second, .val (.long D1), .second, .val (.long D2), .second, .val (.double xa), .second, .val (.double xb), .second, .val (.double xc), .second, .val (.ref o1), .val (.ref o3), .val (.ref o5), .val (.ref nb6), .val (.ref o194), .val (.int (1 : Int32))] [(.int (lcmpW D1 D1))])
    refine own_st (fun t_ k_ => XS.ifNo X217.here hx rfl (hb hby at_240) rfl ((if0 _ _).trans (teq qD1).2) k_) ?_
    show own_Go p e below _ T217 (mkF m 243 #[.val (.int nn), .val (.long dd), .second, .val (.int ga), .val (.int gb), .val (.int va), .val (.int vb), .val (.int (3 : Int32)), .val (.long D0), .second, .val (.long D1), .second, .val (.long D2), .second, .val (.double xa), .second, .val (.double xb), .second, .val (.double xc), .second, .val (.ref o1), .val (.ref o3), .val (.ref o5), .val (.ref nb6), .val (.ref o194), .val (.int (1 : Int32))] [])
    refine own_st (fun t_ k_ => XS.aload X217.here hx rfl (hb hby at_243) rfl rfl k_) ?_
    show own_Go p e below _ T217 (mkF m 245 #[.val (.int nn), .val (.long dd), .second, .val (.int ga), .val (.int gb), .val (.int va), .val (.int vb), .val (.int (3 : Int32)), .val (.long D0), .second, .val (.long D1), .second, .val (.long D2), .second, .val (.double xa), .second, .val (.double xb), .second, .val (.double xc), .second, .val (.ref o1), .val (.ref o3), .val (.ref o5), .val (.ref nb6), .val (.ref o194), .val (.int (1 : Int32))] [(.ref o194)])
    refine own_st (fun t_ k_ => XS.iconst X217.here hx rfl (hb hby at_245) k_) ?_
    show own_Go p e below _ T217 (mkF m 246 #[.val (.int nn), .val (.long dd), .second, .val (.int ga), .val (.int gb), .val (.int va), .val (.int vb), .val (.int (3 : Int32)), .val (.long D0), .second, .val (.long D1), .second, .val (.long D2), .second, .val (.double xa), .second, .val (.double xb), .second, .val (.double xc), .second, .val (.ref o1), .val (.ref o3), .val (.ref o5), .val (.ref nb6), .val (.ref o194), .val (.int (1 : Int32))] [(.int (1 : Int32)), (.ref o194)])
    have f219 := (f207.keep Kq214 nin0)
    have f220 := (f208.keep Kq214 nin0)
    have f223 := (f211.keep Kq214)
    obtain ⟨cq222, kq222, q222a, q222b, q222c⟩ := isOf hZ hh217 f223
    refine own_callV X217 hx (y := (⟨"com/example/hebelwerk/hebelwerk/engine/DatedValues", "value", "(I)D"⟩ : MethodName)) (z := (⟨"com/example/hebelwerk/hebelwerk/engine/DatedValues", "value", "(I)D"⟩ : MethodName)) hown (mvT hZ (hw _ (List.mem_of_getElem? (i := 156) rfl))) (mvT hZ (hw _ (List.mem_of_getElem? (i := 157) rfl))) (notFace_of_selects (args := #[]) (mvT hZ (hw _ (List.mem_of_getElem? (i := 159) rfl)))) (mvT hZ (hw _ (List.mem_of_getElem? (i := 159) rfl))) (mvT hZ (hw _ (List.mem_of_getElem? (i := 158) rfl))) (by decide) (backOf (W := 0) (rmVL31 l Z a0 hw [] o194 tb194 kb194 xa xb xc T214.heap n0 (Nat.le_trans Z0 K214.1) f219 f220) hZ (hw _ (List.mem_of_getElem? (i := 160) rfl)) (hw _ (List.mem_of_getElem? (i := 88) rfl)) (by decide) (by decide)) q222a q222c (g := (mkF m 246 #[.val (.int nn), .val (.long dd), .second, .val (.int ga), .val (.int gb), .val (.int va), .val (.int vb), .val (.int (3 : Int32)), .val (.long D0), .second, .val (.long D1), .second, .val (.long D2), .second, .val (.double xa), .second, .val (.double xb), .second, .val (.double xc), .second, .val (.ref o1), .val (.ref o3), .val (.ref o5), .val (.ref nb6), .val (.ref o194), .val (.int (1 : Int32))] [(.int (1 : Int32)), (.ref o194)])) rfl (by rw [hml]; rfl) (argsL := [(.int (1 : Int32))]) (rest := []) (lenOf pd_18 rfl) rfl (by show 2 * 0 + _ ≤ _; exact Nat.le_of_eq rfl) (hb hby at_246) rfl hh217 (by decide) (by decide) ?_
    rintro v221 T221 L221 X221 ⟨rfl, Nq221, hh221⟩
    have N221 := Fr.app N217 Nq221
    show own_Go p e below _ T221 (mkF m 249 #[.val (.int nn), .val (.long dd), .second, .val (.int ga), .val (.int gb), .val (.int va), .val (.int vb), .val (.int (3 : Int32)), .val (.long D0), .second, .val (.long D1), .second, .val (.long D2), .second, .val (.double xa), .second, .val (.double xb), .second, .val (.double xc), .second, .val (.ref o1), .val (.ref o3), .val (.ref o5), .val (.ref nb6), .val (.ref o194), .val (.int (1 : Int32))] [(.double xb)])
    refine own_st (fun t_ k_ => XS.dload X221.here hx rfl (hb hby at_249) rfl k_) ?_
    show own_Go p e below _ T221 (mkF m 251 #[.val (.int nn), .val (.long dd), .second, .val (.int ga), .val (.int gb), .val (.int va), .val (.int vb), .val (.int (3 : Int32)), .val (.long D0), .second, .val (.long D1), .second, .val (.long D2), .second, .val (.double xa), .second, .val (.double xb), .second, .val (.double xc), .second, .val (.ref o1), .val (.ref o3), .val (.ref o5), .val (.ref nb6), .val (.ref o194), .val (.int (1 : Int32))] [(.double xb), (.double xb)])
    refine own_st (fun t_ k_ => XS.dcmpS X221.here hx rfl (hb hby at_251) rfl (v := (0 : Int32)) (dcmpV_self d_xb.noNaN _) k_) ?_
    show own_Go p e below _ T221 (mkF m 252 #[.val (.int nn), .val (.long dd), .second, .val (.int ga), .val (.int gb), .val (.int va), .val (.int vb), .val (.int (3 : Int32)), .val (.long D0), .second, .val (.long D1), .second, .val (.long D2), .second, .val (.double xa), .second, .val (.double xb), .second, .val (.double xc), .second, .val (.ref o1), .val (.ref o3), .val (.ref o5), .val (.ref nb6), .val (.ref o194), .val (.int (1 : Int32))] [(.int (0 : Int32))])
    refine own_st (fun t_ k_ => XS.ifNo X221.here hx rfl (hb hby at_252) rfl (by decide) k_) ?_
    show own_Go p e below _ T221 (mkF m 255 #[.val (.int nn), .val (.long dd), .second, .val (.int ga), .val (.int gb), .val (.int va), .val (.int vb), .val (.int (3 : Int32)), .val (.long D0), .second, .val (.long D1), .second, .val (.long D2), .second, .val (.double xa), .second, .val (.double xb), .second, .val (.double xc), .second, .val (.ref o1), .val (.ref o3), .val (.ref o5), .val (.ref nb6), .val (.ref o194), .val (.int (1 : Int32))] [])
    refine own_st (fun t_ k_ => XS.iconst X221.here hx rfl (hb hby at_255) k_) ?_
    show own_Go p e below _ T221 (mkF m 256 #[.val (.int nn), .val (.long dd), .second, .val (.int ga), .val (.int gb), .val (.int va), .val (.int vb), .val (.int (3 : Int32)), .val (.long D0), .second, .val (.long D1), .second, .val (.long D2), .second, .val (.double xa), .second, .val (.double xb), .second, .val (.double xc), .second, .val (.ref o1), .val (.ref o3), .val (.ref o5), .val (.ref nb6), .val (.ref o194), .val (.int (1 : Int32))] [(.int (1 : Int32))])
    refine own_st (fun t_ k_ => XS.goto X221.here hx rfl (pc0 := 256) (pc' := 260) rfl (hb hby at_256) (by decide) (by decide) k_) ?_
    show own_Go p e below _ T221 (mkF m 260 #[.val (.int nn), .val (.long dd), .second, .val (.int ga), .val (.int gb), .val (.int va), .val (.int vb), .val (.int (3 : Int32)), .val (.long D0), .second, .val (.long D1), .second, .val (.long D2), .second, .val (.double xa), .second, .val (.double xb), .second, .val (.double xc), .second, .val (.ref o1), .val (.ref o3), .val (.ref o5), .val (.ref nb6), .val (.ref o194), .val (.int (1 : Int32))] [(.int (1 : Int32))])
    refine own_st (fun t_ k_ => XS.istore X221.here hx rfl (hb hby at_260) rfl (l' := #[.val (.int nn), .val (.long dd), .second, .val (.int ga), .val (.int gb), .val (.int va), .val (.int vb), .val (.int (3 : Int32)), .val (.long D0), .second, .val (.long D1), .second, .val (.long D2), .second, .val (.double xa), .second, .val (.double xb), .second, .val (.double xc), .second, .val (.ref o1), .val (.ref o3), .val (.ref o5), .val (.ref nb6), .val (.ref o194), .val (.int (1 : Int32))]) rfl k_) ?_
    show own_Go p e below _ T221 (mkF m 262 #[.val (.int nn), .val (.long dd), .second, .val (.int ga), .val (.int gb), .val (.int va), .val (.int vb), .val (.int (3 : Int32)), .val (.long D0), .second, .val (.long D1), .second, .val (.long D2), .second, .val (.double xa), .second, .val (.double xb), .second, .val (.double xc), .second, .val (.ref o1), .val (.ref o3), .val (.ref o5), .val (.ref nb6), .val (.ref o194), .val (.int (1 : Int32))] [])
    refine own_st (fun t_ k_ => XS.iload X221.here hx rfl (hb hby at_262) rfl k_) ?_
    show own_Go p e below _ T221 (mkF m 264 #[.val (.int nn), .val (.long dd), .second, .val (.int ga), .val (.int gb), .val (.int va), .val (.int vb), .val (.int (3 : Int32)), .val (.long D0), .second, .val (.long D1), .second, .val (.long D2), .second, .val (.double xa), .second, .val (.double xb), .second, .val (.double xc), .second, .val (.ref o1), .val (.ref o3), .val (.ref o5), .val (.ref nb6), .val (.ref o194), .val (.int (1 : Int32))] [(.int (1 : Int32))])
    refine own_st (fun t_ k_ => XS.ifNo X221.here hx rfl (hb hby at_264) rfl (by decide) k_) ?_
    show own_Go p e below _ T221 (mkF m 267 #[.val (.int nn), .val (.long dd), .second, .val (.int ga), .val (.int gb), .val (.int va), .val (.int vb), .val (.int (3 : Int32)), .val (.long D0), .second, .val (.long D1), .second, .val (.long D2), .second, .val (.double xa), .second, .val (.double xb), .second, .val (.double xc), .second, .val (.ref o1), .val (.ref o3), .val (.ref o5), .val (.ref nb6), .val (.ref o194), .val (.int (1 : Int32))] [])
    refine own_st (fun t_ k_ => XS.iload X221.here hx rfl (hb hby at_267) rfl k_) ?_
    show own_Go p e below _ T221 (mkF m 269 #[.val (.int nn), .val (.long dd), .second, .val (.int ga), .val (.int gb), .val (.int va), .val (.int vb), .val (.int (3 : Int32)), .val (.long D0), .second, .val (.long D1), .second, .val (.long D2), .second, .val (.double xa), .second, .val (.double xb), .second, .val (.double xc), .second, .val (.ref o1), .val (.ref o3), .val (.ref o5), .val (.ref nb6), .val (.ref o194), .val (.int (1 : Int32))] [(.int (3 : Int32))])
    refine own_st (fun t_ k_ => XS.iconst X221.here hx rfl (hb hby at_269) k_) ?_
    show own_Go p e below _ T221 (mkF m 270 #[.val (.int nn), .val (.long dd), .second, .val (.int ga), .val (.int gb), .val (.int va), .val (.int vb), .val (.int (3 : Int32)), .val (.long D0), .second, .val (.long D1), .second, .val (.long D2), .second, .val (.double xa), .second, .val (.double xb), .second, .val (.double xc), .second, .val (.ref o1), .val (.ref o3), .val (.ref o5), .val (.ref nb6), .val (.ref o194), .val (.int (1 : Int32))] [(.int (3 : Int32)), (.int (3 : Int32))])
    refine own_st (fun t_ k_ => XS.icmpNo X221.here hx rfl (hb hby at_270) rfl (by decide) k_) ?_
    show own_Go p e below _ T221 (mkF m 273 #[.val (.int nn), .val (.long dd), .second, .val (.int ga), .val (.int gb), .val (.int va), .val (.int vb), .val (.int (3 : Int32)), .val (.long D0), .second, .val (.long D1), .second, .val (.long D2), .second, .val (.double xa), .second, .val (.double xb), .second, .val (.double xc), .second, .val (.ref o1), .val (.ref o3), .val (.ref o5), .val (.ref nb6), .val (.ref o194), .val (.int (1 : Int32))] [])
    refine own_st (fun t_ k_ => XS.aload X221.here hx rfl (hb hby at_273) rfl rfl k_) ?_
    show own_Go p e below _ T221 (mkF m 275 #[.val (.int nn), .val (.long dd), .second, .val (.int ga), .val (.int gb), .val (.int va), .val (.int vb), .val (.int (3 : Int32)), .val (.long D0), .second, .val (.long D1), .second, .val (.long D2), .second, .val (.double xa), .second, .val (.double xb), .second, .val (.double xc), .second, .val (.ref o1), .val (.ref o3), .val (.ref o5), .val (.ref nb6), .val (.ref o194), .val (.int (1 : Int32))] [(.ref o194)])
    refine own_st (fun t_ k_ => XS.iconst X221.here hx rfl (hb hby at_275) k_) ?_
    show own_Go p e below _ T221 (mkF m 276 #[.val (.int nn), .val (.long dd), .second, .val (.int ga), .val (.int gb), .val (.int va), .val (.int vb), .val (.int (3 : Int32)), .val (.long D0), .second, .val (.long D1), .second, .val (.long D2), .second, .val (.double xa), .second, .val (.double xb), .second, .val (.double xc), .second, .val (.ref o1), .val (.ref o3), .val (.ref o5), .val (.ref nb6), .val (.ref o194), .val (.int (1 : Int32))] [(.int (2 : Int32)), (.ref o194)])
    have f224 := (f212.keep Kq214 nin0)
    have f225 := (f213.keep Kq214 nin0)
    obtain ⟨cq227, kq227, q227a, q227b, q227c⟩ := isOf hZ hh221 f223
    refine own_callV X221 hx (y := (⟨"com/example/hebelwerk/hebelwerk/engine/DatedValues", "date", "(I)Ljava/time/LocalDate;"⟩ : MethodName)) (z := (⟨"com/example/hebelwerk/hebelwerk/engine/DatedValues", "date", "(I)Ljava/time/LocalDate;"⟩ : MethodName)) hown (mvT hZ (hw _ (List.mem_of_getElem? (i := 149) rfl))) (mvT hZ (hw _ (List.mem_of_getElem? (i := 150) rfl))) (notFace_of_selects (args := #[]) (mvT hZ (hw _ (List.mem_of_getElem? (i := 152) rfl)))) (mvT hZ (hw _ (List.mem_of_getElem? (i := 152) rfl))) (mvT hZ (hw _ (List.mem_of_getElem? (i := 151) rfl))) (by decide) (backOf (W := 0) (rmDT32 l Z a0 hw [] o194 ta194 ka194 D0 D1 D2 cf rg iso T214.heap n0 (Nat.le_trans Z0 K214.1) f216 SEp Ecf Frg Erg Fmn Fmx SIn Eis f224 f225 (own_b2 d_D0 d_D1 d_D2)) hZ (hw _ (List.mem_of_getElem? (i := 153) rfl)) (hw _ (List.mem_of_getElem? (i := 88) rfl)) (by decide) (by decide)) q227a q227c (g := (mkF m 276 #[.val (.int nn), .val (.long dd), .second, .val (.int ga), .val (.int gb), .val (.int va), .val (.int vb), .val (.int (3 : Int32)), .val (.long D0), .second, .val (.long D1), .second, .val (.long D2), .second, .val (.double xa), .second, .val (.double xb), .second, .val (.double xc), .second, .val (.ref o1), .val (.ref o3), .val (.ref o5), .val (.ref nb6), .val (.ref o194), .val (.int (1 : Int32))] [(.int (2 : Int32)), (.ref o194)])) rfl (by rw [hml]; rfl) (argsL := [(.int (2 : Int32))]) (rest := []) (lenOf pd_17 rfl) rfl (by show 2 * 0 + _ ≤ _; exact Nat.le_of_eq rfl) (hb hby at_276) rfl hh221 (by decide) (by decide) ?_
    rintro v226 T226 L226 X226 ⟨o226, y226, mo226, kd226, rfl, Nq226, Kq226, go226, g_o226, Eo226, Fy226, Fm226, Fd226, hD226⟩
    have N226 := Fr.app N221 Nq226
    have K226 : Keep h0 T226.heap [] := K214.trans Kq226 all0
    have sz_o226 : h0.size ≤ o226 := Nat.le_trans K214.1 go226
    show own_Go p e below _ T226 (mkF m 279 #[.val (.int nn), .val (.long dd), .second, .val (.int ga), .val (.int gb), .val (.int va), .val (.int vb), .val (.int (3 : Int32)), .val (.long D0), .second, .val (.long D1), .second, .val (.long D2), .second, .val (.double xa), .second, .val (.double xb), .second, .val (.double xc), .second, .val (.ref o1), .val (.ref o3), .val (.ref o5), .val (.ref nb6), .val (.ref o194), .val (.int (1 : Int32))] [(.ref o226)])
    have f228 := (f216.keep Kq226 all0)
    obtain ⟨cq230, kq230, q230a, q230b, q230c⟩ := isOf hZ rfl Eo226
    refine own_callV X226 hx (y := (⟨"java/time/LocalDate", "toEpochDay", "()J"⟩ : MethodName)) (z := (⟨"java/time/LocalDate", "toEpochDay", "()J"⟩ : MethodName)) hown (mvT hZ (hw _ (List.mem_of_getElem? (i := 155) rfl))) (mvT hZ (hw _ (List.mem_of_getElem? (i := 130) rfl))) (notFace_of_selects (args := #[]) (mvT hZ (hw _ (List.mem_of_getElem? (i := 132) rfl)))) (mvT hZ (hw _ (List.mem_of_getElem? (i := 132) rfl))) (mvT hZ (hw _ (List.mem_of_getElem? (i := 131) rfl))) (by decide) (backOf (W := 0) (rmTE l Z a0 hw [] o226 y226 mo226 kd226 D2 cf rg iso T226.heap n0 (Nat.le_trans Z0 K226.1) f228 SEp Ecf Frg Erg Fmn Fmx SIn Eis Eo226 Fy226 Fm226 Fd226 hD226 (own_b2 d_D0 d_D1 d_D2)) hZ (hw _ (List.mem_of_getElem? (i := 133) rfl)) (hw _ (List.mem_of_getElem? (i := 4) rfl)) (by decide) (by decide)) q230a q230c (g := (mkF m 279 #[.val (.int nn), .val (.long dd), .second, .val (.int ga), .val (.int gb), .val (.int va), .val (.int vb), .val (.int (3 : Int32)), .val (.long D0), .second, .val (.long D1), .second, .val (.long D2), .second, .val (.double xa), .second, .val (.double xb), .second, .val (.double xc), .second, .val (.ref o1), .val (.ref o3), .val (.ref o5), .val (.ref nb6), .val (.ref o194), .val (.int (1 : Int32))] [(.ref o226)])) rfl (by rw [hml]; rfl) (argsL := []) (rest := []) (lenOf pd_0 rfl) rfl (by show 2 * 0 + _ ≤ _; exact Nat.le_of_eq rfl) (hb hby at_279) rfl rfl (by decide) (by decide) ?_
    rintro v229 T229 L229 X229 ⟨rfl, Nq229, hh229⟩
    have N229 := Fr.app N226 Nq229
    show own_Go p e below _ T229 (mkF m 282 #[.val (.int nn), .val (.long dd), .second, .val (.int ga), .val (.int gb), .val (.int va), .val (.int vb), .val (.int (3 : Int32)), .val (.long D0), .second, .val (.long D1), .second, .val (.long D2), .second, .val (.double xa), .second, .val (.double xb), .second, .val (.double xc), .second, .val (.ref o1), .val (.ref o3), .val (.ref o5), .val (.ref nb6), .val (.ref o194), .val (.int (1 : Int32))] [(.long D2)])
    refine own_st (fun t_ k_ => XS.lload X229.here hx rfl (hb hby at_282) rfl k_) ?_
    show own_Go p e below _ T229 (mkF m 284 #[.val (.int nn), .val (.long dd), .second, .val (.int ga), .val (.int gb), .val (.int va), .val (.int vb), .val (.int (3 : Int32)), .val (.long D0), .second, .val (.long D1), .second, .val (.long D2), .second, .val (.double xa), .second, .val (.double xb), .second, .val (.double xc), .second, .val (.ref o1), .val (.ref o3), .val (.ref o5), .val (.ref nb6), .val (.ref o194), .val (.int (1 : Int32))] [(.long D2), (.long D2)])
    refine own_st (fun t_ k_ => XS.lcmp X229.here hx rfl (hb hby at_284) rfl k_) ?_
    show own_Go p e below _ T229 (mkF m 285 #[.val (.int nn), .val (.long dd), .second, .val (.int ga), .val (.int gb), .val (.int va), .val (.int vb), .val (.int (3 : Int32)), .val (.long D0), .second, .val (.long D1), .second, .val (.long D2), .second, .val (.double xa), .second, .val (.double xb), .second, .val (.double xc), .second, .val (.ref o1), .val (.ref o3), .val (.ref o5), .val (.ref nb6), .val (.ref o194), .val (.int (1 : Int32))] [(.int (lcmpW D2 D2))])
    refine own_st (fun t_ k_ => XS.ifNo X229.here hx rfl (hb hby at_285) rfl ((if0 _ _).trans (teq qD2).2) k_) ?_
    show own_Go p e below _ T229 (mkF m 288 #[.val (.int nn), .val (.long dd), .second, .val (.int ga), .val (.int gb), .val (.int va), .val (.int vb), .val (.int (3 : Int32)), .val (.long D0), .second, .val (.long D1), .second, .val (.long D2), .second, .val (.double xa), .second, .val (.double xb), .second, .val (.double xc), .second, .val (.ref o1), .val (.ref o3), .val (.ref o5), .val (.ref nb6), .val (.ref o194), .val (.int (1 : Int32))] [])
    refine own_st (fun t_ k_ => XS.aload X229.here hx rfl (hb hby at_288) rfl rfl k_) ?_
    show own_Go p e below _ T229 (mkF m 290 #[.val (.int nn), .val (.long dd), .second, .val (.int ga), .val (.int gb), .val (.int va), .val (.int vb), .val (.int (3 : Int32)), .val (.long D0), .second, .val (.long D1), .second, .val (.long D2), .second, .val (.double xa), .second, .val (.double xb), .second, .val (.double xc), .second, .val (.ref o1), .val (.ref o3), .val (.ref o5), .val (.ref nb6), .val (.ref o194), .val (.int (1 : Int32))] [(.ref o194)])
    refine own_st (fun t_ k_ => XS.iconst X229.here hx rfl (hb hby at_290) k_) ?_
    show own_Go p e below _ T229 (mkF m 291 #[.val (.int nn), .val (.long dd), .second, .val (.int ga), .val (.int gb), .val (.int va), .val (.int vb), .val (.int (3 : Int32)), .val (.long D0), .second, .val (.long D1), .second, .val (.long D2), .second, .val (.double xa), .second, .val (.double xb), .second, .val (.double xc), .second, .val (.ref o1), .val (.ref o3), .val (.ref o5), .val (.ref nb6), .val (.ref o194), .val (.int (1 : Int32))] [(.int (2 : Int32)), (.ref o194)])
    have f231 := (f219.keep Kq226 nin0)
    have f232 := (f220.keep Kq226 nin0)
    have f235 := (f223.keep Kq226)
    obtain ⟨cq234, kq234, q234a, q234b, q234c⟩ := isOf hZ hh229 f235
    refine own_callV X229 hx (y := (⟨"com/example/hebelwerk/hebelwerk/engine/DatedValues", "value", "(I)D"⟩ : MethodName)) (z := (⟨"com/example/hebelwerk/hebelwerk/engine/DatedValues", "value", "(I)D"⟩ : MethodName)) hown (mvT hZ (hw _ (List.mem_of_getElem? (i := 156) rfl))) (mvT hZ (hw _ (List.mem_of_getElem? (i := 157) rfl))) (notFace_of_selects (args := #[]) (mvT hZ (hw _ (List.mem_of_getElem? (i := 159) rfl)))) (mvT hZ (hw _ (List.mem_of_getElem? (i := 159) rfl))) (mvT hZ (hw _ (List.mem_of_getElem? (i := 158) rfl))) (by decide) (backOf (W := 0) (rmVL32 l Z a0 hw [] o194 tb194 kb194 xa xb xc T226.heap n0 (Nat.le_trans Z0 K226.1) f231 f232) hZ (hw _ (List.mem_of_getElem? (i := 160) rfl)) (hw _ (List.mem_of_getElem? (i := 88) rfl)) (by decide) (by decide)) q234a q234c (g := (mkF m 291 #[.val (.int nn), .val (.long dd), .second, .val (.int ga), .val (.int gb), .val (.int va), .val (.int vb), .val (.int (3 : Int32)), .val (.long D0), .second, .val (.long D1), .second, .val (.long D2), .second, .val (.double xa), .second, .val (.double xb), .second, .val (.double xc), .second, .val (.ref o1), .val (.ref o3), .val (.ref o5), .val (.ref nb6), .val (.ref o194), .val (.int (1 : Int32))] [(.int (2 : Int32)), (.ref o194)])) rfl (by rw [hml]; rfl) (argsL := [(.int (2 : Int32))]) (rest := []) (lenOf pd_18 rfl) rfl (by show 2 * 0 + _ ≤ _; exact Nat.le_of_eq rfl) (hb hby at_291) rfl hh229 (by decide) (by decide) ?_
    rintro v233 T233 L233 X233 ⟨rfl, Nq233, hh233⟩
    have N233 := Fr.app N229 Nq233
    show own_Go p e below _ T233 (mkF m 294 #[.val (.int nn), .val (.long dd), .second, .val (.int ga), .val (.int gb), .val (.int va), .val (.int vb), .val (.int (3 : Int32)), .val (.long D0), .second, .val (.long D1), .second, .val (.long D2), .second, .val (.double xa), .second, .val (.double xb), .second, .val (.double xc), .second, .val (.ref o1), .val (.ref o3), .val (.ref o5), .val (.ref nb6), .val (.ref o194), .val (.int (1 : Int32))] [(.double xc)])
    refine own_st (fun t_ k_ => XS.dload X233.here hx rfl (hb hby at_294) rfl k_) ?_
    show own_Go p e below _ T233 (mkF m 296 #[.val (.int nn), .val (.long dd), .second, .val (.int ga), .val (.int gb), .val (.int va), .val (.int vb), .val (.int (3 : Int32)), .val (.long D0), .second, .val (.long D1), .second, .val (.long D2), .second, .val (.double xa), .second, .val (.double xb), .second, .val (.double xc), .second, .val (.ref o1), .val (.ref o3), .val (.ref o5), .val (.ref nb6), .val (.ref o194), .val (.int (1 : Int32))] [(.double xc), (.double xc)])
    refine own_st (fun t_ k_ => XS.dcmpS X233.here hx rfl (hb hby at_296) rfl (v := (0 : Int32)) (dcmpV_self d_xc.noNaN _) k_) ?_
    show own_Go p e below _ T233 (mkF m 297 #[.val (.int nn), .val (.long dd), .second, .val (.int ga), .val (.int gb), .val (.int va), .val (.int vb), .val (.int (3 : Int32)), .val (.long D0), .second, .val (.long D1), .second, .val (.long D2), .second, .val (.double xa), .second, .val (.double xb), .second, .val (.double xc), .second, .val (.ref o1), .val (.ref o3), .val (.ref o5), .val (.ref nb6), .val (.ref o194), .val (.int (1 : Int32))] [(.int (0 : Int32))])
    refine own_st (fun t_ k_ => XS.ifNo X233.here hx rfl (hb hby at_297) rfl (by decide) k_) ?_
    show own_Go p e below _ T233 (mkF m 300 #[.val (.int nn), .val (.long dd), .second, .val (.int ga), .val (.int gb), .val (.int va), .val (.int vb), .val (.int (3 : Int32)), .val (.long D0), .second, .val (.long D1), .second, .val (.long D2), .second, .val (.double xa), .second, .val (.double xb), .second, .val (.double xc), .second, .val (.ref o1), .val (.ref o3), .val (.ref o5), .val (.ref nb6), .val (.ref o194), .val (.int (1 : Int32))] [])
    refine own_st (fun t_ k_ => XS.iconst X233.here hx rfl (hb hby at_300) k_) ?_
    show own_Go p e below _ T233 (mkF m 301 #[.val (.int nn), .val (.long dd), .second, .val (.int ga), .val (.int gb), .val (.int va), .val (.int vb), .val (.int (3 : Int32)), .val (.long D0), .second, .val (.long D1), .second, .val (.long D2), .second, .val (.double xa), .second, .val (.double xb), .second, .val (.double xc), .second, .val (.ref o1), .val (.ref o3), .val (.ref o5), .val (.ref nb6), .val (.ref o194), .val (.int (1 : Int32))] [(.int (1 : Int32))])
    refine own_st (fun t_ k_ => XS.goto X233.here hx rfl (pc0 := 301) (pc' := 305) rfl (hb hby at_301) (by decide) (by decide) k_) ?_
    show own_Go p e below _ T233 (mkF m 305 #[.val (.int nn), .val (.long dd), .second, .val (.int ga), .val (.int gb), .val (.int va), .val (.int vb), .val (.int (3 : Int32)), .val (.long D0), .second, .val (.long D1), .second, .val (.long D2), .second, .val (.double xa), .second, .val (.double xb), .second, .val (.double xc), .second, .val (.ref o1), .val (.ref o3), .val (.ref o5), .val (.ref nb6), .val (.ref o194), .val (.int (1 : Int32))] [(.int (1 : Int32))])
    refine own_st (fun t_ k_ => XS.istore X233.here hx rfl (hb hby at_305) rfl (l' := #[.val (.int nn), .val (.long dd), .second, .val (.int ga), .val (.int gb), .val (.int va), .val (.int vb), .val (.int (3 : Int32)), .val (.long D0), .second, .val (.long D1), .second, .val (.long D2), .second, .val (.double xa), .second, .val (.double xb), .second, .val (.double xc), .second, .val (.ref o1), .val (.ref o3), .val (.ref o5), .val (.ref nb6), .val (.ref o194), .val (.int (1 : Int32))]) rfl k_) ?_
    show own_Go p e below _ T233 (mkF m 307 #[.val (.int nn), .val (.long dd), .second, .val (.int ga), .val (.int gb), .val (.int va), .val (.int vb), .val (.int (3 : Int32)), .val (.long D0), .second, .val (.long D1), .second, .val (.long D2), .second, .val (.double xa), .second, .val (.double xb), .second, .val (.double xc), .second, .val (.ref o1), .val (.ref o3), .val (.ref o5), .val (.ref nb6), .val (.ref o194), .val (.int (1 : Int32))] [])
    refine own_st (fun t_ k_ => XS.iload X233.here hx rfl (hb hby at_307) rfl k_) ?_
    show own_Go p e below _ T233 (mkF m 309 #[.val (.int nn), .val (.long dd), .second, .val (.int ga), .val (.int gb), .val (.int va), .val (.int vb), .val (.int (3 : Int32)), .val (.long D0), .second, .val (.long D1), .second, .val (.long D2), .second, .val (.double xa), .second, .val (.double xb), .second, .val (.double xc), .second, .val (.ref o1), .val (.ref o3), .val (.ref o5), .val (.ref nb6), .val (.ref o194), .val (.int (1 : Int32))] [(.int (1 : Int32))])
    refine own_retN X233 hx hlk (t := .boolean) Bd.returns (by simp) (hb hby at_309) ?_ (by decide) (by decide)
    show Q0 n0 _ T233.heap _
    rw [hh233]
    exact ⟨rfl, N233⟩
set_option maxRecDepth 65536 in
set_option maxHeartbeats 40000000 in
theorem comes_1 {Post : Tables → Env → Array Value → State → Outcome → State → Prop} (hpost : ∀ tb e args s v u, (limb_1_1.after args s (.returned v) u = true ∧ limb_1_2.after args s (.returned v) u = true ∧ True) → FrameEnd s (.returned v) u (Jvm.fieldLocs frame_1_writes args s ++ Jvm.arrayLocs frame_1_arrays args s ++ Jvm.staticLocs frame_1_statics s) 32 1152 → Post tb e args s (.returned v) u) :
    ArmFor flags0 classFile x code maxLocals ret World_1 tables_1 room_1 Calls_1 rest_1 Pre_1 Post := by
  intro l hfl _ _ p e ha hc hk s m args below hf hA hF happ hP
  obtain ⟨hcalls, hrest, hpre⟩ := hP
  obtain ⟨-, -, -, hnamed, -, -, -, hat⟩ := (Spec.applies_iff hf).mp happ
  obtain ⟨hg, hn⟩ := and_e (Cond.before_iff.mp (show (Jvm.Cond.and given_1 narrow_1).before args s = true from hpre))
  obtain ⟨g0, hg0⟩ := and_e hg
  obtain ⟨g1, hg1⟩ := and_e hg0
  obtain ⟨g2, hg2⟩ := and_e hg1
  obtain ⟨g3, hg3⟩ := and_e hg2
  obtain ⟨g4, hg4⟩ := and_e hg3
  obtain ⟨g5, hg5⟩ := and_e hg4
  obtain ⟨w0, w1, w2, w3, w4, w5, rfl⟩ : ∃ w0 w1 w2 w3 w4 w5 : Value, args = #[w0, w1, w2, w3, w4, w5] := by
    have hs : args.size = 6 := by simpa [Cond.value, given_1] using g0
    obtain ⟨L⟩ := args
    match L, hs with
    | [w0, w1, w2, w3, w4, w5], _ => exact ⟨w0, w1, w2, w3, w4, w5, rfl⟩
  have hw := fun d (hd : d ∈ tables_1) => atoms_spec (ws := Jvm.Cond.code x code maxLocals ret :: tables_1) hat d (List.mem_cons_of_mem _ hd)
  have hfit : Fit s := fun {y c} hc i hi => by
    obtain ⟨ha, rfl⟩ := Array.getElem?_eq_some_iff.mp hc
    have q := List.all_eq_true.mp ((Array.all_eq_true_iff_forall_mem.mp hF) _ (Array.getElem_mem ha)) i (List.mem_range.mpr hi)
    simpa [Array.getElem?_eq_getElem hi] using q
  obtain ⟨hsets, hown0⟩ := atoms_of _ (rest_1_c_eq ▸ (show rest_1_c.before _ s = true from hrest))
  obtain ⟨i0, ei0⟩ := is_v g1
  obtain rfl : w0 = (.int i0) := Option.some.inj ei0
  obtain ⟨i1, ei1⟩ := isL_v g2
  obtain rfl : w1 = (.long i1) := Option.some.inj ei1
  obtain ⟨i2, ei2⟩ := is_v g3
  obtain rfl : w2 = (.int i2) := Option.some.inj ei2
  obtain ⟨i3, ei3⟩ := is_v g4
  obtain rfl : w3 = (.int i3) := Option.some.inj ei3
  obtain ⟨i4, ei4⟩ := is_v g5
  obtain rfl : w4 = (.int i4) := Option.some.inj ei4
  obtain ⟨i5, ei5⟩ := is_v hg5
  obtain rfl : w5 = (.int i5) := Option.some.inj ei5
  obtain ⟨cf, evc⟩ := exa_v (Cond.before_iff.mp (hsets _ (List.mem_of_getElem? (i := 6) rfl)))
  have Ecf := Exa.start evc (Cond.before_iff.mp (hsets _ (List.mem_of_getElem? (i := 6) rfl)))
  have SEp := Sta.start evc (Or.inl (hsets _ (List.mem_of_getElem? (i := 1) rfl)))
  obtain ⟨rg, evr⟩ := exa_v (Cond.before_iff.mp (hsets _ (List.mem_of_getElem? (i := 22) rfl)))
  have Erg := Exa.start evr (Cond.before_iff.mp (hsets _ (List.mem_of_getElem? (i := 22) rfl)))
  have Frg := Fld.start ((fld_at evc).symm.trans evr)
  have Fmn := Fld.start (own_feqL (Cond.before_iff.mp (hsets _ (List.mem_of_getElem? (i := 23) rfl))) evr)
  have Fmx := Fld.start (own_feqL (Cond.before_iff.mp (hsets _ (List.mem_of_getElem? (i := 26) rfl))) evr)
  obtain ⟨iso, evi⟩ := exa_v (Cond.before_iff.mp (hsets _ (List.mem_of_getElem? (i := 30) rfl)))
  have Eis := Exa.start evi (Cond.before_iff.mp (hsets _ (List.mem_of_getElem? (i := 30) rfl)))
  have SIn := Sta.start evi (Or.inl (hsets _ (List.mem_of_getElem? (i := 29) rfl)))
  obtain ⟨n, o, h1, h2, h3, _, L, rfl, ⟨rfl, N⟩, hq⟩ := rm0 l s _ hw tables_1 i0 i1 i2 i3 i4 i5 cf rg iso s.heap s.heap.size (Nat.le_refl _) (Old.start s) SEp Ecf Frg Erg Fmn Fmx SIn Eis p e ha hc hk s m _ below hf ((Spec.applies_iff_loose hf).mp happ).1 ⟨rfl, State.Warmed39.refl s, rfl⟩ trivial
  refine ⟨n, _, h1, h2, h3, hpost _ _ _ _ _ _ ⟨Cond.after_iff.mpr rfl, Cond.after_iff.mpr (eq_i res_at (Term.int_eval (1)) rfl), trivial⟩ ⟨hq.1, hq.2.1, (hq.2.2.sift fun y hy => Or.inr (N y hy)).mono (by decide) (by decide)⟩⟩
theorem main_1_1 : Claimed_1_1 := comes_1 fun _ _ _ _ _ _ h hF => ⟨h.1, hF⟩
theorem main_1_2 : Claimed_1_2 := comes_1 fun _ _ _ _ _ _ h hF => ⟨h.2.1, hF⟩
end Jvm.Pilot.@@N@@
namespace Jvm.Pilot.@@N@@
open Jvm Jvm.ClassFile Sem Op Lib Jvm.Free Jvm.Stand Jvm.Pilot.@@N@@.Jvm.D
/-! MADE BY PROGRAM (witnessworld.py) out of the Statement's table words and the real class files: 40 classes; the members and pool entries that the words name. The judged class is class 1, her method 1. -/
namespace start1
open Jvm.ClassFile
def u (s : String) : CpInfo := .utf8 (stringToUtf16 s)
/-- a pool by its gaps: so many unusable entries, then the entry; so many at the end -/
def gap : Nat → List CpInfo → List CpInfo
  | 0, r => r
  | n + 1, r => .unusable :: gap n r
def poolList (es : List (Nat × CpInfo)) (last : Nat) : List CpInfo := es.foldr (fun e r => gap e.1 (e.2 :: r)) (gap last [])
def pool (es : List (Nat × CpInfo)) (last : Nat) : Array CpInfo := ⟨poolList es last⟩
def fileOf (pool : Array CpInfo) (this : Nat) (attrs : Array Attribute := #[]) (ms : Array MethodInfo := #[]) (fl : Nat := 33) (sup : Nat := 0) (ifs : Array Nat := #[]) (fds : Array FieldInfo := #[]) : ClassFile where
  minorVersion := 0
  majorVersion := 65
  constantPool := pool
  accessFlags := fl
  thisClass := this
  superClass := sup
  interfaces := ifs
  fields := fds
  methods := ms
  attributes := attrs
def plain (name : String) (sup : Option ClassId) : Class where
  name := name
  kind := .ordinary
  loader := none
  accessFlags := 33
  super := sup
  interfaces := #[]
  cf := none
  fields := #[]
  methods := #[]
  instanceTypes := #[]
  staticTypes := #[]
  resolved := #[]
  callSites := []
  init := .initialized
  statics := none
  mirror := none

def pool0 : Array CpInfo := pool [(5, u "<init>"), (0, u "()V"), (1, .class_ 10), (1, u "java/lang/Object")] 113

def k0c0 : Code := { maxStack := 0, maxLocals := 1, code := object_method_1_code, exceptionTable := #[], attributes := #[] }
def k0m0 : Method := { name := "<init>", desc := "()V", sig := { parameters := [], returnType := none }, accessFlags := 1, code := some k0c0 }
/-- java/lang/Object -/
def k0 : Class := { plain "java/lang/Object" none with
  accessFlags := 33
  interfaces := #[]
  cf := some (fileOf pool0 8 #[] #[{ accessFlags := 1, nameIndex := 5, descriptorIndex := 6, attributes := #[] }] 33 0 #[] #[])
  fields := #[]
  methods := #[k0m0]
  instanceTypes := #[]
  staticTypes := #[]
  resolved := Array.replicate 124 none
  statics := none }

def pool1 : Array CpInfo := pool [(2, .class_ 4), (0, .nameAndType 5 6), (0, u "java/lang/Object"), (0, u "<init>"), (0, u "()V"), (0, .long 100000000000), (1, .integer 65535), (0, .methodref 11 12), (0, .class_ 13), (0, .nameAndType 14 15), (0, u "java/time/LocalDate"), (0, u "ofEpochDay"), (0, u "(J)Ljava/time/LocalDate;"), (0, .class_ 17), (0, u "com/example/hebelwerk/hebelwerk/engine/DatedValues$Builder"), (0, .methodref 16 3), (0, .methodref 16 20), (0, .nameAndType 21 22), (0, u "add"), (0, u "(Ljava/time/LocalDate;D)V"), (0, .methodref 16 24), (0, .nameAndType 25 26), (0, u "build"), (0, u "()Lcom/example/hebelwerk/hebelwerk/engine/DatedValues;"), (0, .methodref 28 29), (0, .class_ 30), (0, .nameAndType 31 32), (0, u "com/example/hebelwerk/hebelwerk/engine/DatedValues"), (0, u "size"), (0, u "()I"), (0, .methodref 28 34), (0, .nameAndType 35 36), (0, u "isEmpty"), (0, u "()Z"), (0, .methodref 28 38), (0, .nameAndType 39 40), (0, u "date"), (0, u "(I)Ljava/time/LocalDate;"), (0, .methodref 11 42), (0, .nameAndType 43 44), (0, u "toEpochDay"), (0, u "()J"), (0, .methodref 28 46), (0, .nameAndType 47 48), (0, u "value"), (0, u "(I)D"), (0, .class_ 50), (0, u "com/example/hebelwerk/hebelwerk/engine/BuilderBuildPinLaw"), (2, u "law"), (0, u "(IJIIII)Z")] 5

def k1m0 : Method := { name := "<init>", desc := "()V", sig := { parameters := [], returnType := none }, accessFlags := 1, code := none }
def k1c1 : Code := { maxStack := 4, maxLocals := 26, code := code, exceptionTable := #[], attributes := #[] }
def k1m1 : Method := { name := "law", desc := "(IJIIII)Z", sig := { parameters := [.int, .long, .int, .int, .int, .int], returnType := some .boolean }, accessFlags := 9, code := some k1c1 }
/-- com/example/hebelwerk/hebelwerk/engine/BuilderBuildPinLaw -/
def k1 : Class := { plain "com/example/hebelwerk/hebelwerk/engine/BuilderBuildPinLaw" (some 0) with
  accessFlags := 49
  interfaces := #[]
  cf := some (fileOf pool1 49 #[] #[{ accessFlags := 1, nameIndex := 5, descriptorIndex := 6, attributes := #[] }, { accessFlags := 9, nameIndex := 53, descriptorIndex := 54, attributes := #[] }] 49 2 #[] #[])
  fields := #[]
  methods := #[k1m0, k1m1]
  instanceTypes := #[]
  staticTypes := #[]
  resolved := Array.replicate 60 none
  statics := none }

def pool2 : Array CpInfo := pool [(4, .class_ 6), (1, u "java/time/temporal/TemporalAccessor"), (95, .class_ 103), (0, u "java/lang/Object")] 21

/-- java/time/temporal/TemporalAccessor -/
def k2 : Class := { plain "java/time/temporal/TemporalAccessor" (some 0) with
  accessFlags := 1537
  interfaces := #[]
  cf := some (fileOf pool2 4 #[] #[] 1537 102 #[] #[])
  fields := #[]
  methods := #[]
  instanceTypes := #[]
  staticTypes := #[]
  resolved := Array.replicate 125 none
  statics := none }

def pool3 : Array CpInfo := pool [(22, .class_ 24), (1, u "java/time/temporal/Temporal"), (2, .class_ 28), (0, u "java/lang/Object"), (0, .class_ 30), (0, u "java/time/temporal/TemporalAccessor")] 25

/-- java/time/temporal/Temporal -/
def k3 : Class := { plain "java/time/temporal/Temporal" (some 0) with
  accessFlags := 1537
  interfaces := #[2]
  cf := some (fileOf pool3 22 #[] #[] 1537 27 #[29] #[])
  fields := #[]
  methods := #[]
  instanceTypes := #[]
  staticTypes := #[]
  resolved := Array.replicate 56 none
  statics := none }

def pool4 : Array CpInfo := pool [(1, .class_ 2), (0, u "java/time/temporal/TemporalAdjuster"), (0, .class_ 4), (0, u "java/lang/Object")] 6

/-- java/time/temporal/TemporalAdjuster -/
def k4 : Class := { plain "java/time/temporal/TemporalAdjuster" (some 0) with
  accessFlags := 1537
  interfaces := #[]
  cf := some (fileOf pool4 1 #[] #[] 1537 3 #[] #[])
  fields := #[]
  methods := #[]
  instanceTypes := #[]
  staticTypes := #[]
  resolved := Array.replicate 11 none
  statics := none }

def pool5 : Array CpInfo := pool [(1, .class_ 2), (0, u "java/lang/Comparable"), (0, .class_ 4), (0, u "java/lang/Object")] 7

/-- java/lang/Comparable -/
def k5 : Class := { plain "java/lang/Comparable" (some 0) with
  accessFlags := 1537
  interfaces := #[]
  cf := some (fileOf pool5 1 #[] #[] 1537 3 #[] #[])
  fields := #[]
  methods := #[]
  instanceTypes := #[]
  staticTypes := #[]
  resolved := Array.replicate 12 none
  statics := none }

def pool6 : Array CpInfo := pool [(9, .class_ 10), (0, u "java/time/chrono/ChronoLocalDate"), (104, .class_ 117), (1, u "java/time/temporal/Temporal"), (134, .class_ 253), (0, u "java/lang/Object"), (23, .class_ 278), (0, u "java/time/temporal/TemporalAdjuster"), (0, .class_ 280), (0, u "java/lang/Comparable")] 86

/-- java/time/chrono/ChronoLocalDate -/
def k6 : Class := { plain "java/time/chrono/ChronoLocalDate" (some 0) with
  accessFlags := 1537
  interfaces := #[3, 4, 5]
  cf := some (fileOf pool6 9 #[] #[] 1537 252 #[115, 277, 279] #[])
  fields := #[]
  methods := #[]
  instanceTypes := #[]
  staticTypes := #[]
  resolved := Array.replicate 367 none
  statics := none }

def pool7 : Array CpInfo := pool [(1, .class_ 2), (0, u "java/io/Serializable"), (0, .class_ 4), (0, u "java/lang/Object")] 2

/-- java/io/Serializable -/
def k7 : Class := { plain "java/io/Serializable" (some 0) with
  accessFlags := 1537
  interfaces := #[]
  cf := some (fileOf pool7 1 #[] #[] 1537 3 #[] #[])
  fields := #[]
  methods := #[]
  instanceTypes := #[]
  staticTypes := #[]
  resolved := Array.replicate 7 none
  statics := none }

def pool8 : Array CpInfo := pool [(1, .class_ 2), (0, u "java/time/LocalDate"), (37, .class_ 42), (1, u "java/time/temporal/ChronoField"), (1, u "Ljava/time/temporal/ChronoField;"), (0, .methodref 40 46), (0, .nameAndType 47 48), (0, u "checkValidValue"), (0, u "(J)J"), (1, u "month"), (19, .fieldref 71 72), (0, .class_ 73), (0, .nameAndType 74 75), (0, u "java/time/chrono/IsoChronology"), (0, u "INSTANCE"), (0, u "Ljava/time/chrono/IsoChronology;"), (0, .methodref 71 77), (0, .nameAndType 78 79), (0, u "isLeapYear"), (0, u "(J)Z"), (5, .nameAndType 86 87), (0, u "<init>"), (0, u "()V"), (33, .methodref 1 122), (0, .nameAndType 86 123), (0, u "(III)V"), (20, u "()J"), (14, u "ofEpochDay"), (0, u "(J)Ljava/time/LocalDate;"), (0, .fieldref 40 162), (0, .nameAndType 163 44), (0, u "EPOCH_DAY"), (0, .long 719528), (1, .long 60), (1, .long 146097), (1, .long 400), (1, .long 591), (1, .long 365), (1, .long 4), (1, .long 100), (64, .methodref 244 85), (0, .class_ 245), (0, u "java/lang/Object"), (0, .fieldref 1 247), (0, .nameAndType 248 249), (0, u "year"), (0, u "I"), (0, .fieldref 1 251), (0, .nameAndType 50 252), (0, u "S"), (0, .fieldref 1 254), (0, .nameAndType 255 252), (0, u "day"), (1, .class_ 259), (1, u "java/time/chrono/ChronoLocalDate"), (8, u "()Z"), (1, .class_ 272), (1, u "java/time/LocalDate$1"), (24, .methodref 1 298), (0, .nameAndType 78 268), (35, u "toEpochDay"), (24, .long 12), (10, .long 3), (9, .class_ 382), (1, u "java/time/temporal/TemporalAdjuster"), (205, u "MAX"), (0, u "Ljava/time/LocalDate;"), (2, u "MIN"), (61, .long 99), (1, .long 399), (1, .long 18446744073709551612), (1, .long 18446744073709551516), (1, .long 18446744073709551216), (1, .long 367), (1, .long 362), (1, .long 2), (100, u "EPOCH"), (0, .class_ 771), (0, u "java/time/temporal/Temporal"), (0, .class_ 773), (0, u "java/io/Serializable"), (0, u "serialVersionUID"), (0, u "J"), (3, u "DAYS_PER_CYCLE"), (1, u "DAYS_0000_TO_1970")] 206

def k8c0 : Code := { maxStack := 8, maxLocals := 14, code := jdk_2323_method_8_code, exceptionTable := #[], attributes := #[] }
def k8m0 : Method := { name := "ofEpochDay", desc := "(J)Ljava/time/LocalDate;", sig := { parameters := [.long], returnType := some (.object "java/time/LocalDate") }, accessFlags := 9, code := some k8c0 }
def k8c1 : Code := { maxStack := 2, maxLocals := 4, code := jdk_2323_method_14_code, exceptionTable := #[], attributes := #[] }
def k8m1 : Method := { name := "<init>", desc := "(III)V", sig := { parameters := [.int, .int, .int], returnType := none }, accessFlags := 2, code := some k8c1 }
def k8c2 : Code := { maxStack := 3, maxLocals := 1, code := jdk_2323_method_30_code, exceptionTable := #[], attributes := #[] }
def k8m2 : Method := { name := "isLeapYear", desc := "()Z", sig := { parameters := [], returnType := some .boolean }, accessFlags := 1, code := some k8c2 }
def k8c3 : Code := { maxStack := 8, maxLocals := 7, code := jdk_2323_method_67_code, exceptionTable := #[], attributes := #[] }
def k8m3 : Method := { name := "toEpochDay", desc := "()J", sig := { parameters := [], returnType := some .long }, accessFlags := 1, code := some k8c3 }
/-- java/time/LocalDate -/
def k8 : Class := { plain "java/time/LocalDate" (some 0) with
  accessFlags := 49
  interfaces := #[3, 4, 6, 7]
  cf := some (fileOf pool8 1 #[.nestMembers #[270]] #[{ accessFlags := 9, nameIndex := 159, descriptorIndex := 160, attributes := #[] }, { accessFlags := 2, nameIndex := 86, descriptorIndex := 123, attributes := #[] }, { accessFlags := 1, nameIndex := 78, descriptorIndex := 268, attributes := #[] }, { accessFlags := 1, nameIndex := 334, descriptorIndex := 144, attributes := #[] }] 49 244 #[770, 380, 257, 772] #[{ accessFlags := 25, nameIndex := 592, descriptorIndex := 589, attributes := #[] }, { accessFlags := 25, nameIndex := 588, descriptorIndex := 589, attributes := #[] }, { accessFlags := 25, nameIndex := 769, descriptorIndex := 589, attributes := #[] }, { accessFlags := 26, nameIndex := 774, descriptorIndex := 775, attributes := #[] }, { accessFlags := 26, nameIndex := 779, descriptorIndex := 249, attributes := #[] }, { accessFlags := 24, nameIndex := 781, descriptorIndex := 775, attributes := #[] }, { accessFlags := 18, nameIndex := 248, descriptorIndex := 249, attributes := #[] }, { accessFlags := 18, nameIndex := 50, descriptorIndex := 252, attributes := #[] }, { accessFlags := 18, nameIndex := 255, descriptorIndex := 252, attributes := #[] }])
  fields := #[{ name := "MIN", type := (.object "java/time/LocalDate"), accessFlags := 25, slot := 0, constantValue := 0 }, { name := "MAX", type := (.object "java/time/LocalDate"), accessFlags := 25, slot := 1, constantValue := 0 }, { name := "EPOCH", type := (.object "java/time/LocalDate"), accessFlags := 25, slot := 2, constantValue := 0 }, { name := "serialVersionUID", type := .long, accessFlags := 26, slot := 3, constantValue := 0 }, { name := "DAYS_PER_CYCLE", type := .int, accessFlags := 26, slot := 4, constantValue := 0 }, { name := "DAYS_0000_TO_1970", type := .long, accessFlags := 24, slot := 5, constantValue := 0 }, { name := "year", type := .int, accessFlags := 18, slot := 0, constantValue := 0 }, { name := "month", type := .short, accessFlags := 18, slot := 1, constantValue := 0 }, { name := "day", type := .short, accessFlags := 18, slot := 2, constantValue := 0 }]
  methods := #[k8m0, k8m1, k8m2, k8m3]
  instanceTypes := #[.int, .short, .short]
  staticTypes := #[(.object "java/time/LocalDate"), (.object "java/time/LocalDate"), (.object "java/time/LocalDate"), .long, .int, .long]
  resolved := Array.replicate 988 none
  statics := none }

def pool9 : Array CpInfo := pool [(1, .class_ 2), (0, u "java/lang/constant/Constable"), (0, .class_ 4), (0, u "java/lang/Object")] 6

/-- java/lang/constant/Constable -/
def k9 : Class := { plain "java/lang/constant/Constable" (some 0) with
  accessFlags := 1537
  interfaces := #[]
  cf := some (fileOf pool9 1 #[] #[] 1537 3 #[] #[])
  fields := #[]
  methods := #[]
  instanceTypes := #[]
  staticTypes := #[]
  resolved := Array.replicate 11 none
  statics := none }

def pool10 : Array CpInfo := pool [(2, .class_ 4), (1, u "java/lang/Enum"), (0, u "name"), (0, u "Ljava/lang/String;"), (2, u "ordinal"), (0, u "I"), (1, .class_ 14), (1, u "java/lang/Object"), (4, u "hash"), (86, .class_ 108), (1, u "java/lang/Enum$EnumDesc"), (2, .class_ 112), (0, u "java/lang/constant/Constable"), (0, .class_ 114), (0, u "java/lang/Comparable"), (0, .class_ 116), (0, u "java/io/Serializable")] 87

/-- java/lang/Enum -/
def k10 : Class := { plain "java/lang/Enum" (some 0) with
  accessFlags := 1057
  interfaces := #[9, 5, 7]
  cf := some (fileOf pool10 2 #[.nestMembers #[106]] #[] 1057 12 #[111, 113, 115] #[{ accessFlags := 18, nameIndex := 5, descriptorIndex := 6, attributes := #[] }, { accessFlags := 18, nameIndex := 9, descriptorIndex := 10, attributes := #[] }, { accessFlags := 2, nameIndex := 19, descriptorIndex := 10, attributes := #[] }])
  fields := #[{ name := "name", type := (.object "java/lang/String"), accessFlags := 18, slot := 0, constantValue := 0 }, { name := "ordinal", type := .int, accessFlags := 18, slot := 1, constantValue := 0 }, { name := "hash", type := .int, accessFlags := 2, slot := 2, constantValue := 0 }]
  methods := #[]
  instanceTypes := #[(.object "java/lang/String"), .int, .int]
  staticTypes := #[]
  resolved := Array.replicate 204 none
  statics := none }

def pool11 : Array CpInfo := pool [(10, .class_ 12), (1, u "java/time/temporal/TemporalField"), (2, .class_ 16), (0, u "java/lang/Object")] 39

/-- java/time/temporal/TemporalField -/
def k11 : Class := { plain "java/time/temporal/TemporalField" (some 0) with
  accessFlags := 1537
  interfaces := #[]
  cf := some (fileOf pool11 10 #[] #[] 1537 15 #[] #[])
  fields := #[]
  methods := #[]
  instanceTypes := #[]
  staticTypes := #[]
  resolved := Array.replicate 56 none
  statics := none }

def pool12 : Array CpInfo := pool [(1, .class_ 2), (0, u "java/time/temporal/ChronoField"), (2, u "NANO_OF_SECOND"), (0, u "Ljava/time/temporal/ChronoField;"), (2, u "NANO_OF_DAY"), (2, u "MICRO_OF_SECOND"), (2, u "MICRO_OF_DAY"), (2, u "MILLI_OF_SECOND"), (2, u "MILLI_OF_DAY"), (2, u "SECOND_OF_MINUTE"), (2, u "SECOND_OF_DAY"), (2, u "MINUTE_OF_HOUR"), (2, u "MINUTE_OF_DAY"), (2, u "HOUR_OF_AMPM"), (2, u "CLOCK_HOUR_OF_AMPM"), (2, u "HOUR_OF_DAY"), (2, u "CLOCK_HOUR_OF_DAY"), (2, u "AMPM_OF_DAY"), (2, u "DAY_OF_WEEK"), (2, u "ALIGNED_DAY_OF_WEEK_IN_MONTH"), (2, u "ALIGNED_DAY_OF_WEEK_IN_YEAR"), (2, u "DAY_OF_MONTH"), (2, u "DAY_OF_YEAR"), (2, u "EPOCH_DAY"), (2, u "ALIGNED_WEEK_OF_MONTH"), (2, u "ALIGNED_WEEK_OF_YEAR"), (2, u "MONTH_OF_YEAR"), (2, u "PROLEPTIC_MONTH"), (2, u "YEAR_OF_ERA"), (2, u "YEAR"), (2, u "ERA"), (2, u "INSTANT_SECONDS"), (2, u "OFFSET_SECONDS"), (2, u "$VALUES"), (0, u "[Ljava/time/temporal/ChronoField;"), (6, .class_ 106), (1, u "java/lang/Enum"), (8, u "name"), (0, u "Ljava/lang/String;"), (2, u "baseUnit"), (0, u "Ljava/time/temporal/TemporalUnit;"), (2, u "rangeUnit"), (0, .fieldref 1 125), (0, .nameAndType 126 127), (0, u "range"), (0, u "Ljava/time/temporal/ValueRange;"), (2, u "displayNameKey"), (59, .methodref 1 191), (0, .nameAndType 126 192), (0, u "()Ljava/time/temporal/ValueRange;"), (0, .methodref 194 195), (0, .class_ 196), (0, .nameAndType 197 198), (0, u "java/time/temporal/ValueRange"), (0, u "checkValidValue"), (0, u "(JLjava/time/temporal/TemporalField;)J"), (256, .class_ 456), (0, u "java/time/temporal/TemporalField"), (27, u "(J)J")] 22

def k12c0 : Code := { maxStack := 1, maxLocals := 1, code := jdk_2395_method_8_code, exceptionTable := #[], attributes := #[] }
def k12m0 : Method := { name := "range", desc := "()Ljava/time/temporal/ValueRange;", sig := { parameters := [], returnType := some (.object "java/time/temporal/ValueRange") }, accessFlags := 1, code := some k12c0 }
def k12c1 : Code := { maxStack := 4, maxLocals := 3, code := jdk_2395_method_11_code, exceptionTable := #[], attributes := #[] }
def k12m1 : Method := { name := "checkValidValue", desc := "(J)J", sig := { parameters := [.long], returnType := some .long }, accessFlags := 1, code := some k12c1 }
/-- java/time/temporal/ChronoField -/
def k12 : Class := { plain "java/time/temporal/ChronoField" (some 10) with
  accessFlags := 16433
  interfaces := #[11]
  cf := some (fileOf pool12 1 #[] #[{ accessFlags := 1, nameIndex := 126, descriptorIndex := 192, attributes := #[] }, { accessFlags := 1, nameIndex := 197, descriptorIndex := 484, attributes := #[] }] 16433 104 #[455] #[{ accessFlags := 16409, nameIndex := 5, descriptorIndex := 6, attributes := #[] }, { accessFlags := 16409, nameIndex := 9, descriptorIndex := 6, attributes := #[] }, { accessFlags := 16409, nameIndex := 12, descriptorIndex := 6, attributes := #[] }, { accessFlags := 16409, nameIndex := 15, descriptorIndex := 6, attributes := #[] }, { accessFlags := 16409, nameIndex := 18, descriptorIndex := 6, attributes := #[] }, { accessFlags := 16409, nameIndex := 21, descriptorIndex := 6, attributes := #[] }, { accessFlags := 16409, nameIndex := 24, descriptorIndex := 6, attributes := #[] }, { accessFlags := 16409, nameIndex := 27, descriptorIndex := 6, attributes := #[] }, { accessFlags := 16409, nameIndex := 30, descriptorIndex := 6, attributes := #[] }, { accessFlags := 16409, nameIndex := 33, descriptorIndex := 6, attributes := #[] }, { accessFlags := 16409, nameIndex := 36, descriptorIndex := 6, attributes := #[] }, { accessFlags := 16409, nameIndex := 39, descriptorIndex := 6, attributes := #[] }, { accessFlags := 16409, nameIndex := 42, descriptorIndex := 6, attributes := #[] }, { accessFlags := 16409, nameIndex := 45, descriptorIndex := 6, attributes := #[] }, { accessFlags := 16409, nameIndex := 48, descriptorIndex := 6, attributes := #[] }, { accessFlags := 16409, nameIndex := 51, descriptorIndex := 6, attributes := #[] }, { accessFlags := 16409, nameIndex := 54, descriptorIndex := 6, attributes := #[] }, { accessFlags := 16409, nameIndex := 57, descriptorIndex := 6, attributes := #[] }, { accessFlags := 16409, nameIndex := 60, descriptorIndex := 6, attributes := #[] }, { accessFlags := 16409, nameIndex := 63, descriptorIndex := 6, attributes := #[] }, { accessFlags := 16409, nameIndex := 66, descriptorIndex := 6, attributes := #[] }, { accessFlags := 16409, nameIndex := 69, descriptorIndex := 6, attributes := #[] }, { accessFlags := 16409, nameIndex := 72, descriptorIndex := 6, attributes := #[] }, { accessFlags := 16409, nameIndex := 75, descriptorIndex := 6, attributes := #[] }, { accessFlags := 16409, nameIndex := 78, descriptorIndex := 6, attributes := #[] }, { accessFlags := 16409, nameIndex := 81, descriptorIndex := 6, attributes := #[] }, { accessFlags := 16409, nameIndex := 84, descriptorIndex := 6, attributes := #[] }, { accessFlags := 16409, nameIndex := 87, descriptorIndex := 6, attributes := #[] }, { accessFlags := 16409, nameIndex := 90, descriptorIndex := 6, attributes := #[] }, { accessFlags := 16409, nameIndex := 93, descriptorIndex := 6, attributes := #[] }, { accessFlags := 18, nameIndex := 115, descriptorIndex := 116, attributes := #[] }, { accessFlags := 18, nameIndex := 119, descriptorIndex := 120, attributes := #[] }, { accessFlags := 18, nameIndex := 123, descriptorIndex := 120, attributes := #[] }, { accessFlags := 18, nameIndex := 126, descriptorIndex := 127, attributes := #[] }, { accessFlags := 18, nameIndex := 130, descriptorIndex := 116, attributes := #[] }, { accessFlags := 4122, nameIndex := 96, descriptorIndex := 97, attributes := #[] }])
  fields := #[{ name := "NANO_OF_SECOND", type := (.object "java/time/temporal/ChronoField"), accessFlags := 16409, slot := 0, constantValue := 0 }, { name := "NANO_OF_DAY", type := (.object "java/time/temporal/ChronoField"), accessFlags := 16409, slot := 1, constantValue := 0 }, { name := "MICRO_OF_SECOND", type := (.object "java/time/temporal/ChronoField"), accessFlags := 16409, slot := 2, constantValue := 0 }, { name := "MICRO_OF_DAY", type := (.object "java/time/temporal/ChronoField"), accessFlags := 16409, slot := 3, constantValue := 0 }, { name := "MILLI_OF_SECOND", type := (.object "java/time/temporal/ChronoField"), accessFlags := 16409, slot := 4, constantValue := 0 }, { name := "MILLI_OF_DAY", type := (.object "java/time/temporal/ChronoField"), accessFlags := 16409, slot := 5, constantValue := 0 }, { name := "SECOND_OF_MINUTE", type := (.object "java/time/temporal/ChronoField"), accessFlags := 16409, slot := 6, constantValue := 0 }, { name := "SECOND_OF_DAY", type := (.object "java/time/temporal/ChronoField"), accessFlags := 16409, slot := 7, constantValue := 0 }, { name := "MINUTE_OF_HOUR", type := (.object "java/time/temporal/ChronoField"), accessFlags := 16409, slot := 8, constantValue := 0 }, { name := "MINUTE_OF_DAY", type := (.object "java/time/temporal/ChronoField"), accessFlags := 16409, slot := 9, constantValue := 0 }, { name := "HOUR_OF_AMPM", type := (.object "java/time/temporal/ChronoField"), accessFlags := 16409, slot := 10, constantValue := 0 }, { name := "CLOCK_HOUR_OF_AMPM", type := (.object "java/time/temporal/ChronoField"), accessFlags := 16409, slot := 11, constantValue := 0 }, { name := "HOUR_OF_DAY", type := (.object "java/time/temporal/ChronoField"), accessFlags := 16409, slot := 12, constantValue := 0 }, { name := "CLOCK_HOUR_OF_DAY", type := (.object "java/time/temporal/ChronoField"), accessFlags := 16409, slot := 13, constantValue := 0 }, { name := "AMPM_OF_DAY", type := (.object "java/time/temporal/ChronoField"), accessFlags := 16409, slot := 14, constantValue := 0 }, { name := "DAY_OF_WEEK", type := (.object "java/time/temporal/ChronoField"), accessFlags := 16409, slot := 15, constantValue := 0 }, { name := "ALIGNED_DAY_OF_WEEK_IN_MONTH", type := (.object "java/time/temporal/ChronoField"), accessFlags := 16409, slot := 16, constantValue := 0 }, { name := "ALIGNED_DAY_OF_WEEK_IN_YEAR", type := (.object "java/time/temporal/ChronoField"), accessFlags := 16409, slot := 17, constantValue := 0 }, { name := "DAY_OF_MONTH", type := (.object "java/time/temporal/ChronoField"), accessFlags := 16409, slot := 18, constantValue := 0 }, { name := "DAY_OF_YEAR", type := (.object "java/time/temporal/ChronoField"), accessFlags := 16409, slot := 19, constantValue := 0 }, { name := "EPOCH_DAY", type := (.object "java/time/temporal/ChronoField"), accessFlags := 16409, slot := 20, constantValue := 0 }, { name := "ALIGNED_WEEK_OF_MONTH", type := (.object "java/time/temporal/ChronoField"), accessFlags := 16409, slot := 21, constantValue := 0 }, { name := "ALIGNED_WEEK_OF_YEAR", type := (.object "java/time/temporal/ChronoField"), accessFlags := 16409, slot := 22, constantValue := 0 }, { name := "MONTH_OF_YEAR", type := (.object "java/time/temporal/ChronoField"), accessFlags := 16409, slot := 23, constantValue := 0 }, { name := "PROLEPTIC_MONTH", type := (.object "java/time/temporal/ChronoField"), accessFlags := 16409, slot := 24, constantValue := 0 }, { name := "YEAR_OF_ERA", type := (.object "java/time/temporal/ChronoField"), accessFlags := 16409, slot := 25, constantValue := 0 }, { name := "YEAR", type := (.object "java/time/temporal/ChronoField"), accessFlags := 16409, slot := 26, constantValue := 0 }, { name := "ERA", type := (.object "java/time/temporal/ChronoField"), accessFlags := 16409, slot := 27, constantValue := 0 }, { name := "INSTANT_SECONDS", type := (.object "java/time/temporal/ChronoField"), accessFlags := 16409, slot := 28, constantValue := 0 }, { name := "OFFSET_SECONDS", type := (.object "java/time/temporal/ChronoField"), accessFlags := 16409, slot := 29, constantValue := 0 }, { name := "name", type := (.object "java/lang/String"), accessFlags := 18, slot := 3, constantValue := 0 }, { name := "baseUnit", type := (.object "java/time/temporal/TemporalUnit"), accessFlags := 18, slot := 4, constantValue := 0 }, { name := "rangeUnit", type := (.object "java/time/temporal/TemporalUnit"), accessFlags := 18, slot := 5, constantValue := 0 }, { name := "range", type := (.object "java/time/temporal/ValueRange"), accessFlags := 18, slot := 6, constantValue := 0 }, { name := "displayNameKey", type := (.object "java/lang/String"), accessFlags := 18, slot := 7, constantValue := 0 }, { name := "$VALUES", type := (.array (.object "java/time/temporal/ChronoField")), accessFlags := 4122, slot := 30, constantValue := 0 }]
  methods := #[k12m0, k12m1]
  instanceTypes := #[(.object "java/lang/String"), .int, .int, (.object "java/lang/String"), (.object "java/time/temporal/TemporalUnit"), (.object "java/time/temporal/TemporalUnit"), (.object "java/time/temporal/ValueRange"), (.object "java/lang/String")]
  staticTypes := #[(.object "java/time/temporal/ChronoField"), (.object "java/time/temporal/ChronoField"), (.object "java/time/temporal/ChronoField"), (.object "java/time/temporal/ChronoField"), (.object "java/time/temporal/ChronoField"), (.object "java/time/temporal/ChronoField"), (.object "java/time/temporal/ChronoField"), (.object "java/time/temporal/ChronoField"), (.object "java/time/temporal/ChronoField"), (.object "java/time/temporal/ChronoField"), (.object "java/time/temporal/ChronoField"), (.object "java/time/temporal/ChronoField"), (.object "java/time/temporal/ChronoField"), (.object "java/time/temporal/ChronoField"), (.object "java/time/temporal/ChronoField"), (.object "java/time/temporal/ChronoField"), (.object "java/time/temporal/ChronoField"), (.object "java/time/temporal/ChronoField"), (.object "java/time/temporal/ChronoField"), (.object "java/time/temporal/ChronoField"), (.object "java/time/temporal/ChronoField"), (.object "java/time/temporal/ChronoField"), (.object "java/time/temporal/ChronoField"), (.object "java/time/temporal/ChronoField"), (.object "java/time/temporal/ChronoField"), (.object "java/time/temporal/ChronoField"), (.object "java/time/temporal/ChronoField"), (.object "java/time/temporal/ChronoField"), (.object "java/time/temporal/ChronoField"), (.object "java/time/temporal/ChronoField"), (.array (.object "java/time/temporal/ChronoField"))]
  resolved := Array.replicate 507 none
  statics := some 0 }

def pool13 : Array CpInfo := pool [(9, .class_ 10), (0, u "java/time/temporal/ValueRange"), (18, .class_ 31), (1, u "java/lang/Object"), (1, .fieldref 9 34), (0, .nameAndType 35 36), (0, u "minSmallest"), (0, u "J"), (2, u "minLargest"), (2, u "maxSmallest"), (0, .fieldref 9 44), (0, .nameAndType 45 36), (0, u "maxLargest"), (0, .methodref 9 47), (0, .nameAndType 48 49), (0, u "getMinimum"), (0, u "()J"), (4, .methodref 9 55), (0, .nameAndType 56 49), (0, u "getMaximum"), (6, .methodref 9 64), (0, .nameAndType 65 66), (0, u "isValidValue"), (0, u "(J)Z"), (54, .class_ 122), (0, u "java/io/Serializable"), (0, u "serialVersionUID"), (17, u "checkValidValue"), (0, u "(JLjava/time/temporal/TemporalField;)J")] 24

def k13c0 : Code := { maxStack := 2, maxLocals := 1, code := jdk_2423_method_6_code, exceptionTable := #[], attributes := #[] }
def k13m0 : Method := { name := "getMinimum", desc := "()J", sig := { parameters := [], returnType := some .long }, accessFlags := 1, code := some k13c0 }
def k13c1 : Code := { maxStack := 2, maxLocals := 1, code := jdk_2423_method_9_code, exceptionTable := #[], attributes := #[] }
def k13m1 : Method := { name := "getMaximum", desc := "()J", sig := { parameters := [], returnType := some .long }, accessFlags := 1, code := some k13c1 }
def k13c2 : Code := { maxStack := 4, maxLocals := 3, code := jdk_2423_method_11_code, exceptionTable := #[], attributes := #[] }
def k13m2 : Method := { name := "isValidValue", desc := "(J)Z", sig := { parameters := [.long], returnType := some .boolean }, accessFlags := 1, code := some k13c2 }
def k13c3 : Code := { maxStack := 6, maxLocals := 4, code := jdk_2423_method_13_code, exceptionTable := #[], attributes := #[] }
def k13m3 : Method := { name := "checkValidValue", desc := "(JLjava/time/temporal/TemporalField;)J", sig := { parameters := [.long, (.object "java/time/temporal/TemporalField")], returnType := some .long }, accessFlags := 1, code := some k13c3 }
/-- java/time/temporal/ValueRange -/
def k13 : Class := { plain "java/time/temporal/ValueRange" (some 0) with
  accessFlags := 49
  interfaces := #[7]
  cf := some (fileOf pool13 9 #[] #[{ accessFlags := 1, nameIndex := 48, descriptorIndex := 49, attributes := #[] }, { accessFlags := 1, nameIndex := 56, descriptorIndex := 49, attributes := #[] }, { accessFlags := 1, nameIndex := 65, descriptorIndex := 66, attributes := #[] }, { accessFlags := 1, nameIndex := 141, descriptorIndex := 142, attributes := #[] }] 49 29 #[121] #[{ accessFlags := 26, nameIndex := 123, descriptorIndex := 36, attributes := #[] }, { accessFlags := 18, nameIndex := 35, descriptorIndex := 36, attributes := #[] }, { accessFlags := 18, nameIndex := 39, descriptorIndex := 36, attributes := #[] }, { accessFlags := 18, nameIndex := 42, descriptorIndex := 36, attributes := #[] }, { accessFlags := 18, nameIndex := 45, descriptorIndex := 36, attributes := #[] }])
  fields := #[{ name := "serialVersionUID", type := .long, accessFlags := 26, slot := 0, constantValue := 0 }, { name := "minSmallest", type := .long, accessFlags := 18, slot := 0, constantValue := 0 }, { name := "minLargest", type := .long, accessFlags := 18, slot := 1, constantValue := 0 }, { name := "maxSmallest", type := .long, accessFlags := 18, slot := 2, constantValue := 0 }, { name := "maxLargest", type := .long, accessFlags := 18, slot := 3, constantValue := 0 }]
  methods := #[k13m0, k13m1, k13m2, k13m3]
  instanceTypes := #[.long, .long, .long, .long]
  staticTypes := #[.long]
  resolved := Array.replicate 167 none
  statics := none }

def pool14 : Array CpInfo := pool [(1, .methodref 2 3), (0, .class_ 4), (0, .nameAndType 5 6), (0, u "java/lang/Object"), (0, u "<init>"), (0, u "()V"), (0, .fieldref 8 9), (0, .class_ 10), (0, .nameAndType 11 12), (0, u "com/example/hebelwerk/hebelwerk/engine/DatedValues$Builder"), (0, u "days"), (0, u "[J"), (0, .fieldref 8 14), (0, .nameAndType 15 16), (0, u "values"), (0, u "[D"), (0, .methodref 18 19), (0, .class_ 20), (0, .nameAndType 21 22), (0, u "java/time/LocalDate"), (0, u "toEpochDay"), (0, u "()J"), (0, .fieldref 8 24), (0, .nameAndType 25 26), (0, u "size"), (0, u "I"), (19, .methodref 47 48), (0, .class_ 49), (0, .nameAndType 50 51), (0, u "java/lang/Double"), (0, u "isFinite"), (0, u "(D)Z"), (3, .methodref 56 57), (0, .class_ 58), (0, .nameAndType 59 60), (0, u "java/util/Arrays"), (0, u "copyOf"), (0, u "([JI)[J"), (0, .methodref 56 62), (0, .nameAndType 59 63), (0, u "([DI)[D"), (0, .class_ 65), (0, u "com/example/hebelwerk/hebelwerk/engine/DatedValues"), (0, .methodref 64 67), (0, .nameAndType 5 68), (0, u "([J[D)V"), (2, u "add"), (0, u "(Ljava/time/LocalDate;D)V"), (1, u "build"), (0, u "()Lcom/example/hebelwerk/hebelwerk/engine/DatedValues;")] 21

def k14c0 : Code := { maxStack := 2, maxLocals := 1, code := prog_20_method_1_code, exceptionTable := #[], attributes := #[] }
def k14m0 : Method := { name := "<init>", desc := "()V", sig := { parameters := [], returnType := none }, accessFlags := 0, code := some k14c0 }
def k14c1 : Code := { maxStack := 6, maxLocals := 6, code := prog_20_method_2_code, exceptionTable := #[], attributes := #[] }
def k14m1 : Method := { name := "add", desc := "(Ljava/time/LocalDate;D)V", sig := { parameters := [(.object "java/time/LocalDate"), .double], returnType := none }, accessFlags := 0, code := some k14c1 }
def k14c2 : Code := { maxStack := 5, maxLocals := 1, code := prog_20_method_3_code, exceptionTable := #[], attributes := #[] }
def k14m2 : Method := { name := "build", desc := "()Lcom/example/hebelwerk/hebelwerk/engine/DatedValues;", sig := { parameters := [], returnType := some (.object "com/example/hebelwerk/hebelwerk/engine/DatedValues") }, accessFlags := 0, code := some k14c2 }
/-- com/example/hebelwerk/hebelwerk/engine/DatedValues$Builder -/
def k14 : Class := { plain "com/example/hebelwerk/hebelwerk/engine/DatedValues$Builder" (some 0) with
  accessFlags := 48
  interfaces := #[]
  cf := some (fileOf pool14 8 #[.nestHost 64] #[{ accessFlags := 0, nameIndex := 5, descriptorIndex := 6, attributes := #[] }, { accessFlags := 0, nameIndex := 71, descriptorIndex := 72, attributes := #[] }, { accessFlags := 0, nameIndex := 74, descriptorIndex := 75, attributes := #[] }] 48 2 #[] #[{ accessFlags := 2, nameIndex := 11, descriptorIndex := 12, attributes := #[] }, { accessFlags := 2, nameIndex := 15, descriptorIndex := 16, attributes := #[] }, { accessFlags := 2, nameIndex := 25, descriptorIndex := 26, attributes := #[] }])
  fields := #[{ name := "days", type := (.array .long), accessFlags := 2, slot := 0, constantValue := 0 }, { name := "values", type := (.array .double), accessFlags := 2, slot := 1, constantValue := 0 }, { name := "size", type := .int, accessFlags := 2, slot := 2, constantValue := 0 }]
  methods := #[k14m0, k14m1, k14m2]
  instanceTypes := #[(.array .long), (.array .double), .int]
  staticTypes := #[]
  resolved := Array.replicate 97 none
  statics := none }

def pool15 : Array CpInfo := pool [(1, .methodref 2 3), (0, .class_ 4), (0, .nameAndType 5 6), (0, u "java/lang/Object"), (0, u "<init>"), (0, u "()V"), (0, .fieldref 8 9), (0, .class_ 10), (0, .nameAndType 11 12), (0, u "com/example/hebelwerk/hebelwerk/engine/DatedValues"), (0, u "days"), (0, u "[J"), (0, .fieldref 8 14), (0, .nameAndType 15 16), (0, u "values"), (0, u "[D"), (0, .methodref 18 19), (0, .class_ 20), (0, .nameAndType 21 22), (0, u "java/time/LocalDate"), (0, u "ofEpochDay"), (0, u "(J)Ljava/time/LocalDate;"), (10, .class_ 34), (0, u "com/example/hebelwerk/hebelwerk/engine/DatedValues$Walk"), (3, u "([J[D)V"), (2, u "isEmpty"), (0, u "()Z"), (1, u "size"), (0, u "()I"), (5, u "date"), (0, u "(I)Ljava/time/LocalDate;"), (0, u "value"), (0, u "(I)D"), (5, .class_ 61), (0, u "com/example/hebelwerk/hebelwerk/engine/DatedValues$Builder")] 3

def k15c0 : Code := { maxStack := 2, maxLocals := 3, code := prog_19_method_1_code, exceptionTable := #[], attributes := #[] }
def k15m0 : Method := { name := "<init>", desc := "([J[D)V", sig := { parameters := [(.array .long), (.array .double)], returnType := none }, accessFlags := 2, code := some k15c0 }
def k15c1 : Code := { maxStack := 1, maxLocals := 1, code := prog_19_method_2_code, exceptionTable := #[], attributes := #[] }
def k15m1 : Method := { name := "isEmpty", desc := "()Z", sig := { parameters := [], returnType := some .boolean }, accessFlags := 0, code := some k15c1 }
def k15c2 : Code := { maxStack := 1, maxLocals := 1, code := prog_19_method_3_code, exceptionTable := #[], attributes := #[] }
def k15m2 : Method := { name := "size", desc := "()I", sig := { parameters := [], returnType := some .int }, accessFlags := 0, code := some k15c2 }
def k15c3 : Code := { maxStack := 2, maxLocals := 2, code := prog_19_method_7_code, exceptionTable := #[], attributes := #[] }
def k15m3 : Method := { name := "date", desc := "(I)Ljava/time/LocalDate;", sig := { parameters := [.int], returnType := some (.object "java/time/LocalDate") }, accessFlags := 0, code := some k15c3 }
def k15c4 : Code := { maxStack := 2, maxLocals := 2, code := prog_19_method_8_code, exceptionTable := #[], attributes := #[] }
def k15m4 : Method := { name := "value", desc := "(I)D", sig := { parameters := [.int], returnType := some .double }, accessFlags := 0, code := some k15c4 }
/-- com/example/hebelwerk/hebelwerk/engine/DatedValues -/
def k15 : Class := { plain "com/example/hebelwerk/hebelwerk/engine/DatedValues" (some 0) with
  accessFlags := 48
  interfaces := #[]
  cf := some (fileOf pool15 8 #[.nestMembers #[60, 33]] #[{ accessFlags := 2, nameIndex := 5, descriptorIndex := 38, attributes := #[] }, { accessFlags := 0, nameIndex := 41, descriptorIndex := 42, attributes := #[] }, { accessFlags := 0, nameIndex := 44, descriptorIndex := 45, attributes := #[] }, { accessFlags := 0, nameIndex := 51, descriptorIndex := 52, attributes := #[] }, { accessFlags := 0, nameIndex := 53, descriptorIndex := 54, attributes := #[] }] 48 2 #[] #[{ accessFlags := 18, nameIndex := 11, descriptorIndex := 12, attributes := #[] }, { accessFlags := 18, nameIndex := 15, descriptorIndex := 16, attributes := #[] }])
  fields := #[{ name := "days", type := (.array .long), accessFlags := 18, slot := 0, constantValue := 0 }, { name := "values", type := (.array .double), accessFlags := 18, slot := 1, constantValue := 0 }]
  methods := #[k15m0, k15m1, k15m2, k15m3, k15m4]
  instanceTypes := #[(.array .long), (.array .double)]
  staticTypes := #[]
  resolved := Array.replicate 65 none
  statics := none }

def pool16 : Array CpInfo := pool [(2, .class_ 4), (1, u "java/lang/Object"), (0, u "<init>"), (0, u "()V"), (7, .class_ 16), (1, u "java/util/Arrays"), (57, .class_ 76), (1, u "java/util/Arrays$NaturalOrder"), (36, .class_ 115), (1, u "java/util/Arrays$LegacyMergeSort"), (1, u "Z"), (32, .methodref 151 152), (0, .class_ 153), (0, .nameAndType 154 155), (0, u "java/lang/System"), (0, u "arraycopy"), (0, u "(Ljava/lang/Object;ILjava/lang/Object;II)V"), (146, u "copyOf"), (1, .methodref 305 306), (0, .class_ 307), (0, .nameAndType 308 309), (0, u "java/lang/Math"), (0, u "min"), (0, u "(II)I"), (65, .class_ 376), (0, u "java/util/Arrays$ArrayList"), (68, u "$assertionsDisabled"), (269, u "MIN_ARRAY_SORT_GRAN"), (0, u "I"), (2, u "INSERTIONSORT_THRESHOLD"), (152, u "([JI)[J"), (2, u "([DI)[D"), (99, .class_ 976), (0, u "java/util/Arrays$ArrayItr")] 52

def k16m0 : Method := { name := "<init>", desc := "()V", sig := { parameters := [], returnType := none }, accessFlags := 2, code := none }
def k16c1 : Code := { maxStack := 6, maxLocals := 3, code := jdk_65_method_124_code, exceptionTable := #[], attributes := #[] }
def k16m1 : Method := { name := "copyOf", desc := "([JI)[J", sig := { parameters := [(.array .long), .int], returnType := some (.array .long) }, accessFlags := 9, code := some k16c1 }
def k16c2 : Code := { maxStack := 6, maxLocals := 3, code := jdk_65_method_127_code, exceptionTable := #[], attributes := #[] }
def k16m2 : Method := { name := "copyOf", desc := "([DI)[D", sig := { parameters := [(.array .double), .int], returnType := some (.array .double) }, accessFlags := 9, code := some k16c2 }
/-- java/util/Arrays -/
def k16 : Class := { plain "java/util/Arrays" (some 0) with
  accessFlags := 49
  interfaces := #[]
  cf := some (fileOf pool16 14 #[.nestMembers #[975, 375, 113, 74]] #[{ accessFlags := 2, nameIndex := 5, descriptorIndex := 6, attributes := #[] }, { accessFlags := 9, nameIndex := 302, descriptorIndex := 872, attributes := #[] }, { accessFlags := 9, nameIndex := 302, descriptorIndex := 875, attributes := #[] }] 49 2 #[] #[{ accessFlags := 26, nameIndex := 715, descriptorIndex := 716, attributes := #[] }, { accessFlags := 26, nameIndex := 719, descriptorIndex := 716, attributes := #[] }, { accessFlags := 4120, nameIndex := 445, descriptorIndex := 117, attributes := #[] }])
  fields := #[{ name := "MIN_ARRAY_SORT_GRAN", type := .int, accessFlags := 26, slot := 0, constantValue := 0 }, { name := "INSERTIONSORT_THRESHOLD", type := .int, accessFlags := 26, slot := 1, constantValue := 0 }, { name := "$assertionsDisabled", type := .boolean, accessFlags := 4120, slot := 2, constantValue := 0 }]
  methods := #[k16m0, k16m1, k16m2]
  instanceTypes := #[]
  staticTypes := #[.int, .int, .boolean]
  resolved := Array.replicate 1029 none
  statics := none }

def pool17 : Array CpInfo := pool [(1, .class_ 2), (0, u "java/lang/Math"), (1, .class_ 6), (1, u "java/lang/Object"), (0, u "<init>"), (0, u "()V"), (5, u "(D)D"), (83, .class_ 100), (1, u "java/lang/Math$RandomNumberGeneratorHolder"), (23, u "abs"), (47, u "negativeZeroFloatBits"), (0, u "J"), (2, u "negativeZeroDoubleBits"), (24, u "min"), (43, u "$assertionsDisabled"), (0, u "Z"), (88, u "(II)I"), (2, u "twoToTheDoubleScaleDown"), (0, u "D"), (4, u "twoToTheDoubleScaleUp"), (9, u "E"), (3, u "PI"), (2, u "TAU"), (2, u "DEGREES_TO_RADIANS"), (0, u "RADIANS_TO_DEGREES")] 94

def k17m0 : Method := { name := "<init>", desc := "()V", sig := { parameters := [], returnType := none }, accessFlags := 2, code := none }
def k17c1 : Code := { maxStack := 4, maxLocals := 2, code := jdk_29_method_64_code, exceptionTable := #[], attributes := #[] }
def k17m1 : Method := { name := "abs", desc := "(D)D", sig := { parameters := [.double], returnType := some .double }, accessFlags := 9, code := some k17c1 }
def k17c2 : Code := { maxStack := 2, maxLocals := 2, code := jdk_29_method_69_code, exceptionTable := #[], attributes := #[] }
def k17m2 : Method := { name := "min", desc := "(II)I", sig := { parameters := [.int, .int], returnType := some .int }, accessFlags := 9, code := some k17c2 }
/-- java/lang/Math -/
def k17 : Class := { plain "java/lang/Math" (some 0) with
  accessFlags := 49
  interfaces := #[]
  cf := some (fileOf pool17 1 #[.nestMembers #[98]] #[{ accessFlags := 2, nameIndex := 7, descriptorIndex := 8, attributes := #[] }, { accessFlags := 9, nameIndex := 124, descriptorIndex := 14, attributes := #[] }, { accessFlags := 9, nameIndex := 201, descriptorIndex := 335, attributes := #[] }] 49 4 #[] #[{ accessFlags := 25, nameIndex := 354, descriptorIndex := 339, attributes := #[] }, { accessFlags := 25, nameIndex := 358, descriptorIndex := 339, attributes := #[] }, { accessFlags := 25, nameIndex := 361, descriptorIndex := 339, attributes := #[] }, { accessFlags := 26, nameIndex := 364, descriptorIndex := 339, attributes := #[] }, { accessFlags := 26, nameIndex := 365, descriptorIndex := 339, attributes := #[] }, { accessFlags := 26, nameIndex := 172, descriptorIndex := 173, attributes := #[] }, { accessFlags := 26, nameIndex := 176, descriptorIndex := 173, attributes := #[] }, { accessFlags := 8, nameIndex := 344, descriptorIndex := 339, attributes := #[] }, { accessFlags := 8, nameIndex := 338, descriptorIndex := 339, attributes := #[] }, { accessFlags := 4120, nameIndex := 245, descriptorIndex := 246, attributes := #[] }])
  fields := #[{ name := "E", type := .double, accessFlags := 25, slot := 0, constantValue := 0 }, { name := "PI", type := .double, accessFlags := 25, slot := 1, constantValue := 0 }, { name := "TAU", type := .double, accessFlags := 25, slot := 2, constantValue := 0 }, { name := "DEGREES_TO_RADIANS", type := .double, accessFlags := 26, slot := 3, constantValue := 0 }, { name := "RADIANS_TO_DEGREES", type := .double, accessFlags := 26, slot := 4, constantValue := 0 }, { name := "negativeZeroFloatBits", type := .long, accessFlags := 26, slot := 5, constantValue := 0 }, { name := "negativeZeroDoubleBits", type := .long, accessFlags := 26, slot := 6, constantValue := 0 }, { name := "twoToTheDoubleScaleUp", type := .double, accessFlags := 8, slot := 7, constantValue := 0 }, { name := "twoToTheDoubleScaleDown", type := .double, accessFlags := 8, slot := 8, constantValue := 0 }, { name := "$assertionsDisabled", type := .boolean, accessFlags := 4120, slot := 9, constantValue := 0 }]
  methods := #[k17m0, k17m1, k17m2]
  instanceTypes := #[]
  staticTypes := #[.double, .double, .double, .double, .double, .long, .long, .double, .double, .boolean]
  resolved := Array.replicate 460 none
  statics := none }

def pool18 : Array CpInfo := pool [(2, .class_ 4), (1, u "java/lang/Object"), (0, u "<init>"), (0, u "()V"), (1, .class_ 10), (1, u "java/lang/System"), (0, u "allowSecurityManager"), (0, u "I"), (16, u "cons"), (0, u "Ljava/io/Console;"), (77, .class_ 110), (1, u "java/lang/System$CallersHolder"), (43, u "initialErrStream"), (0, u "Ljava/io/PrintStream;"), (19, u "security"), (0, u "Ljava/lang/SecurityManager;"), (31, .class_ 209), (0, u "java/lang/System$1"), (7, u "props"), (0, u "Ljava/util/Properties;"), (2, u "lineSeparator"), (0, u "Ljava/lang/String;"), (96, .class_ 321), (1, u "java/lang/System$LoggerFinder"), (5, .class_ 328), (0, u "java/lang/System$Logger"), (67, u "err"), (2, u "out"), (91, u "notSupportedJnuEncoding"), (15, u "in"), (17, u "initialIn"), (0, u "Ljava/io/InputStream;"), (35, u "bootLayer"), (0, u "Ljava/lang/ModuleLayer;"), (99, .class_ 664), (0, u "java/lang/System$2"), (9, u "NEVER"), (2, u "MAYBE"), (49, u "arraycopy"), (0, u "(Ljava/lang/Object;ILjava/lang/Object;II)V"), (72, .class_ 802), (0, u "java/lang/System$Logger$Level")] 31

def k18m0 : Method := { name := "<init>", desc := "()V", sig := { parameters := [], returnType := none }, accessFlags := 2, code := none }
def k18m1 : Method := { name := "arraycopy", desc := "(Ljava/lang/Object;ILjava/lang/Object;II)V", sig := { parameters := [(.object "java/lang/Object"), .int, (.object "java/lang/Object"), .int, .int], returnType := none }, accessFlags := 265, code := none }
/-- java/lang/System -/
def k18 : Class := { plain "java/lang/System" (some 0) with
  accessFlags := 49
  interfaces := #[]
  cf := some (fileOf pool18 8 #[.nestMembers #[319, 327, 801, 108, 663, 208]] #[{ accessFlags := 2, nameIndex := 5, descriptorIndex := 6, attributes := #[] }, { accessFlags := 265, nameIndex := 727, descriptorIndex := 728, attributes := #[] }] 49 2 #[] #[{ accessFlags := 25, nameIndex := 507, descriptorIndex := 526, attributes := #[] }, { accessFlags := 25, nameIndex := 399, descriptorIndex := 155, attributes := #[] }, { accessFlags := 25, nameIndex := 396, descriptorIndex := 155, attributes := #[] }, { accessFlags := 10, nameIndex := 525, descriptorIndex := 526, attributes := #[] }, { accessFlags := 26, nameIndex := 674, descriptorIndex := 12, attributes := #[] }, { accessFlags := 26, nameIndex := 677, descriptorIndex := 12, attributes := #[] }, { accessFlags := 10, nameIndex := 11, descriptorIndex := 12, attributes := #[] }, { accessFlags := 74, nameIndex := 175, descriptorIndex := 176, attributes := #[] }, { accessFlags := 10, nameIndex := 491, descriptorIndex := 222, attributes := #[] }, { accessFlags := 74, nameIndex := 29, descriptorIndex := 30, attributes := #[] }, { accessFlags := 74, nameIndex := 154, descriptorIndex := 155, attributes := #[] }, { accessFlags := 10, nameIndex := 217, descriptorIndex := 218, attributes := #[] }, { accessFlags := 10, nameIndex := 221, descriptorIndex := 222, attributes := #[] }, { accessFlags := 8, nameIndex := 562, descriptorIndex := 563, attributes := #[] }])
  fields := #[{ name := "in", type := (.object "java/io/InputStream"), accessFlags := 25, slot := 0, constantValue := 0 }, { name := "out", type := (.object "java/io/PrintStream"), accessFlags := 25, slot := 1, constantValue := 0 }, { name := "err", type := (.object "java/io/PrintStream"), accessFlags := 25, slot := 2, constantValue := 0 }, { name := "initialIn", type := (.object "java/io/InputStream"), accessFlags := 10, slot := 3, constantValue := 0 }, { name := "NEVER", type := .int, accessFlags := 26, slot := 4, constantValue := 0 }, { name := "MAYBE", type := .int, accessFlags := 26, slot := 5, constantValue := 0 }, { name := "allowSecurityManager", type := .int, accessFlags := 10, slot := 6, constantValue := 0 }, { name := "security", type := (.object "java/lang/SecurityManager"), accessFlags := 74, slot := 7, constantValue := 0 }, { name := "notSupportedJnuEncoding", type := (.object "java/lang/String"), accessFlags := 10, slot := 8, constantValue := 0 }, { name := "cons", type := (.object "java/io/Console"), accessFlags := 74, slot := 9, constantValue := 0 }, { name := "initialErrStream", type := (.object "java/io/PrintStream"), accessFlags := 74, slot := 10, constantValue := 0 }, { name := "props", type := (.object "java/util/Properties"), accessFlags := 10, slot := 11, constantValue := 0 }, { name := "lineSeparator", type := (.object "java/lang/String"), accessFlags := 10, slot := 12, constantValue := 0 }, { name := "bootLayer", type := (.object "java/lang/ModuleLayer"), accessFlags := 8, slot := 13, constantValue := 0 }]
  methods := #[k18m0, k18m1]
  instanceTypes := #[]
  staticTypes := #[(.object "java/io/InputStream"), (.object "java/io/PrintStream"), (.object "java/io/PrintStream"), (.object "java/io/InputStream"), .int, .int, .int, (.object "java/lang/SecurityManager"), (.object "java/lang/String"), (.object "java/io/Console"), (.object "java/io/PrintStream"), (.object "java/util/Properties"), (.object "java/lang/String"), (.object "java/lang/ModuleLayer")]
  resolved := Array.replicate 834 none
  statics := none }

def pool19 : Array CpInfo := pool [(2, .class_ 4), (1, u "java/lang/Object"), (0, u "<init>"), (0, u "()V"), (1, .class_ 10), (1, u "java/lang/Number"), (2, .class_ 14), (0, u "java/io/Serializable"), (0, u "serialVersionUID"), (0, u "J")] 20

def k19m0 : Method := { name := "<init>", desc := "()V", sig := { parameters := [], returnType := none }, accessFlags := 1, code := none }
/-- java/lang/Number -/
def k19 : Class := { plain "java/lang/Number" (some 0) with
  accessFlags := 1057
  interfaces := #[7]
  cf := some (fileOf pool19 8 #[] #[{ accessFlags := 1, nameIndex := 5, descriptorIndex := 6, attributes := #[] }] 1057 2 #[13] #[{ accessFlags := 26, nameIndex := 15, descriptorIndex := 16, attributes := #[] }])
  fields := #[{ name := "serialVersionUID", type := .long, accessFlags := 26, slot := 0, constantValue := 0 }]
  methods := #[k19m0]
  instanceTypes := #[]
  staticTypes := #[.long]
  resolved := Array.replicate 37 none
  statics := none }

def pool20 : Array CpInfo := pool [(1, .class_ 2), (0, u "java/lang/constant/ConstantDesc"), (0, .class_ 4), (0, u "java/lang/Object")] 32

/-- java/lang/constant/ConstantDesc -/
def k20 : Class := { plain "java/lang/constant/ConstantDesc" (some 0) with
  accessFlags := 1537
  interfaces := #[]
  cf := some (fileOf pool20 1 #[] #[] 1537 3 #[] #[])
  fields := #[]
  methods := #[]
  instanceTypes := #[]
  staticTypes := #[]
  resolved := Array.replicate 37 none
  statics := none }

def pool21 : Array CpInfo := pool [(1, .class_ 2), (0, u "java/lang/Double"), (10, u "isFinite"), (0, u "(D)Z"), (8, .class_ 25), (1, u "java/lang/Math"), (12, .methodref 23 39), (0, .nameAndType 40 41), (0, u "abs"), (0, u "(D)D"), (69, .double 9218868437227405311), (2, .class_ 116), (1, u "java/lang/Number"), (3, u "value"), (0, u "D"), (51, u "TYPE"), (0, u "Ljava/lang/Class;"), (0, .class_ 176), (0, u "java/lang/Comparable"), (0, .class_ 178), (0, u "java/lang/constant/Constable"), (0, .class_ 180), (0, u "java/lang/constant/ConstantDesc"), (0, u "POSITIVE_INFINITY"), (3, u "NEGATIVE_INFINITY"), (2, u "NaN"), (2, u "MAX_VALUE"), (0, u "MIN_NORMAL"), (0, u "MIN_VALUE"), (2, u "SIZE"), (0, u "I"), (1, u "PRECISION"), (1, u "MAX_EXPONENT"), (1, u "MIN_EXPONENT"), (1, u "BYTES"), (3, u "serialVersionUID"), (0, u "J")] 79

def k21c0 : Code := { maxStack := 4, maxLocals := 2, code := jdk_117_method_8_code, exceptionTable := #[], attributes := #[] }
def k21m0 : Method := { name := "isFinite", desc := "(D)Z", sig := { parameters := [.double], returnType := some .boolean }, accessFlags := 9, code := some k21c0 }
/-- java/lang/Double -/
def k21 : Class := { plain "java/lang/Double" (some 19) with
  accessFlags := 49
  interfaces := #[5, 9, 20]
  cf := some (fileOf pool21 1 #[] #[{ accessFlags := 9, nameIndex := 13, descriptorIndex := 14, attributes := #[] }] 49 114 #[175, 177, 179] #[{ accessFlags := 25, nameIndex := 181, descriptorIndex := 121, attributes := #[] }, { accessFlags := 25, nameIndex := 185, descriptorIndex := 121, attributes := #[] }, { accessFlags := 25, nameIndex := 188, descriptorIndex := 121, attributes := #[] }, { accessFlags := 25, nameIndex := 191, descriptorIndex := 121, attributes := #[] }, { accessFlags := 25, nameIndex := 192, descriptorIndex := 121, attributes := #[] }, { accessFlags := 25, nameIndex := 193, descriptorIndex := 121, attributes := #[] }, { accessFlags := 25, nameIndex := 196, descriptorIndex := 197, attributes := #[] }, { accessFlags := 25, nameIndex := 199, descriptorIndex := 197, attributes := #[] }, { accessFlags := 25, nameIndex := 201, descriptorIndex := 197, attributes := #[] }, { accessFlags := 25, nameIndex := 203, descriptorIndex := 197, attributes := #[] }, { accessFlags := 25, nameIndex := 205, descriptorIndex := 197, attributes := #[] }, { accessFlags := 25, nameIndex := 173, descriptorIndex := 174, attributes := #[] }, { accessFlags := 18, nameIndex := 120, descriptorIndex := 121, attributes := #[] }, { accessFlags := 26, nameIndex := 209, descriptorIndex := 210, attributes := #[] }])
  fields := #[{ name := "POSITIVE_INFINITY", type := .double, accessFlags := 25, slot := 0, constantValue := 0 }, { name := "NEGATIVE_INFINITY", type := .double, accessFlags := 25, slot := 1, constantValue := 0 }, { name := "NaN", type := .double, accessFlags := 25, slot := 2, constantValue := 0 }, { name := "MAX_VALUE", type := .double, accessFlags := 25, slot := 3, constantValue := 0 }, { name := "MIN_NORMAL", type := .double, accessFlags := 25, slot := 4, constantValue := 0 }, { name := "MIN_VALUE", type := .double, accessFlags := 25, slot := 5, constantValue := 0 }, { name := "SIZE", type := .int, accessFlags := 25, slot := 6, constantValue := 0 }, { name := "PRECISION", type := .int, accessFlags := 25, slot := 7, constantValue := 0 }, { name := "MAX_EXPONENT", type := .int, accessFlags := 25, slot := 8, constantValue := 0 }, { name := "MIN_EXPONENT", type := .int, accessFlags := 25, slot := 9, constantValue := 0 }, { name := "BYTES", type := .int, accessFlags := 25, slot := 10, constantValue := 0 }, { name := "TYPE", type := (.object "java/lang/Class"), accessFlags := 25, slot := 11, constantValue := 0 }, { name := "value", type := .double, accessFlags := 18, slot := 0, constantValue := 0 }, { name := "serialVersionUID", type := .long, accessFlags := 26, slot := 12, constantValue := 0 }]
  methods := #[k21m0]
  instanceTypes := #[.double]
  staticTypes := #[.double, .double, .double, .double, .double, .double, .int, .int, .int, .int, .int, (.object "java/lang/Class"), .long]
  resolved := Array.replicate 290 none
  statics := none }

def pool22 : Array CpInfo := pool [(21, .class_ 22), (0, u "java/time/chrono/Chronology"), (138, .class_ 162), (0, u "java/time/chrono/Chronology$1"), (74, .class_ 238), (0, u "java/lang/Object"), (0, .class_ 240), (0, u "java/lang/Comparable")] 86

/-- java/time/chrono/Chronology -/
def k22 : Class := { plain "java/time/chrono/Chronology" (some 0) with
  accessFlags := 1537
  interfaces := #[5]
  cf := some (fileOf pool22 21 #[.nestMembers #[161]] #[] 1537 237 #[239] #[])
  fields := #[]
  methods := #[]
  instanceTypes := #[]
  staticTypes := #[]
  resolved := Array.replicate 327 none
  statics := none }

def pool23 : Array CpInfo := pool [(2, .class_ 4), (1, u "java/time/chrono/Chronology"), (3, .class_ 10), (1, u "java/time/chrono/AbstractChronology"), (4, u "CHRONOS_BY_ID"), (0, u "Ljava/util/concurrent/ConcurrentHashMap;"), (11, u "CHRONOS_BY_TYPE"), (69, u "<init>"), (0, u "()V"), (71, .class_ 172), (0, u "java/lang/Object")] 383

def k23m0 : Method := { name := "<init>", desc := "()V", sig := { parameters := [], returnType := none }, accessFlags := 4, code := none }
/-- java/time/chrono/AbstractChronology -/
def k23 : Class := { plain "java/time/chrono/AbstractChronology" (some 0) with
  accessFlags := 1057
  interfaces := #[22]
  cf := some (fileOf pool23 8 #[] #[{ accessFlags := 4, nameIndex := 98, descriptorIndex := 99, attributes := #[] }] 1057 171 #[2] #[{ accessFlags := 26, nameIndex := 15, descriptorIndex := 16, attributes := #[] }, { accessFlags := 26, nameIndex := 28, descriptorIndex := 16, attributes := #[] }])
  fields := #[{ name := "CHRONOS_BY_ID", type := (.object "java/util/concurrent/ConcurrentHashMap"), accessFlags := 26, slot := 0, constantValue := 0 }, { name := "CHRONOS_BY_TYPE", type := (.object "java/util/concurrent/ConcurrentHashMap"), accessFlags := 26, slot := 1, constantValue := 0 }]
  methods := #[k23m0]
  instanceTypes := #[]
  staticTypes := #[(.object "java/util/concurrent/ConcurrentHashMap"), (.object "java/util/concurrent/ConcurrentHashMap")]
  resolved := Array.replicate 556 none
  statics := none }

def pool24 : Array CpInfo := pool [(2, .class_ 4), (1, u "java/time/chrono/AbstractChronology"), (0, u "<init>"), (0, u "()V"), (5, .class_ 14), (1, u "java/time/chrono/IsoChronology"), (102, .long 3), (5, .long 100), (3, .long 400), (3, u "INSTANCE"), (0, u "Ljava/time/chrono/IsoChronology;"), (2, u "isLeapYear"), (0, u "(J)Z"), (228, .class_ 366), (0, u "java/io/Serializable"), (0, u "serialVersionUID"), (0, u "J"), (3, u "DAYS_0000_TO_1970")] 81

def k24m0 : Method := { name := "<init>", desc := "()V", sig := { parameters := [], returnType := none }, accessFlags := 2, code := none }
def k24c1 : Code := { maxStack := 4, maxLocals := 3, code := jdk_2369_method_18_code, exceptionTable := #[], attributes := #[] }
def k24m1 : Method := { name := "isLeapYear", desc := "(J)Z", sig := { parameters := [.long], returnType := some .boolean }, accessFlags := 1, code := some k24c1 }
/-- java/time/chrono/IsoChronology -/
def k24 : Class := { plain "java/time/chrono/IsoChronology" (some 23) with
  accessFlags := 49
  interfaces := #[7]
  cf := some (fileOf pool24 12 #[] #[{ accessFlags := 2, nameIndex := 5, descriptorIndex := 6, attributes := #[] }, { accessFlags := 1, nameIndex := 135, descriptorIndex := 136, attributes := #[] }] 49 2 #[365] #[{ accessFlags := 25, nameIndex := 131, descriptorIndex := 132, attributes := #[] }, { accessFlags := 26, nameIndex := 367, descriptorIndex := 368, attributes := #[] }, { accessFlags := 26, nameIndex := 372, descriptorIndex := 368, attributes := #[] }])
  fields := #[{ name := "INSTANCE", type := (.object "java/time/chrono/IsoChronology"), accessFlags := 25, slot := 0, constantValue := 0 }, { name := "serialVersionUID", type := .long, accessFlags := 26, slot := 1, constantValue := 0 }, { name := "DAYS_0000_TO_1970", type := .long, accessFlags := 26, slot := 2, constantValue := 0 }]
  methods := #[k24m0, k24m1]
  instanceTypes := #[]
  staticTypes := #[(.object "java/time/chrono/IsoChronology"), .long, .long]
  resolved := Array.replicate 454 none
  statics := some 1 }

def pool25 : Array CpInfo := pool [(4, .class_ 6), (1, u "java/time/temporal/TemporalUnit"), (23, .class_ 31), (0, u "java/lang/Object")] 27

/-- java/time/temporal/TemporalUnit -/
def k25 : Class := { plain "java/time/temporal/TemporalUnit" (some 0) with
  accessFlags := 1537
  interfaces := #[]
  cf := some (fileOf pool25 4 #[] #[] 1537 30 #[] #[])
  fields := #[]
  methods := #[]
  instanceTypes := #[]
  staticTypes := #[]
  resolved := Array.replicate 59 none
  statics := none }

def pool26 : Array CpInfo := pool [(1, .class_ 2), (0, u "java/time/temporal/ChronoUnit"), (2, u "NANOS"), (0, u "Ljava/time/temporal/ChronoUnit;"), (2, u "MICROS"), (2, u "MILLIS"), (2, u "SECONDS"), (2, u "MINUTES"), (2, u "HOURS"), (2, u "HALF_DAYS"), (2, u "DAYS"), (2, u "WEEKS"), (2, u "MONTHS"), (2, u "YEARS"), (2, u "DECADES"), (2, u "CENTURIES"), (2, u "MILLENNIA"), (2, u "ERAS"), (2, u "FOREVER"), (2, u "$VALUES"), (0, u "[Ljava/time/temporal/ChronoUnit;"), (6, .class_ 64), (1, u "java/lang/Enum"), (8, u "name"), (0, u "Ljava/lang/String;"), (2, u "duration"), (0, u "Ljava/time/Duration;"), (117, .class_ 197), (0, u "java/time/temporal/TemporalUnit")] 39

/-- java/time/temporal/ChronoUnit -/
def k26 : Class := { plain "java/time/temporal/ChronoUnit" (some 10) with
  accessFlags := 16433
  interfaces := #[25]
  cf := some (fileOf pool26 1 #[] #[] 16433 62 #[196] #[{ accessFlags := 16409, nameIndex := 5, descriptorIndex := 6, attributes := #[] }, { accessFlags := 16409, nameIndex := 9, descriptorIndex := 6, attributes := #[] }, { accessFlags := 16409, nameIndex := 12, descriptorIndex := 6, attributes := #[] }, { accessFlags := 16409, nameIndex := 15, descriptorIndex := 6, attributes := #[] }, { accessFlags := 16409, nameIndex := 18, descriptorIndex := 6, attributes := #[] }, { accessFlags := 16409, nameIndex := 21, descriptorIndex := 6, attributes := #[] }, { accessFlags := 16409, nameIndex := 24, descriptorIndex := 6, attributes := #[] }, { accessFlags := 16409, nameIndex := 27, descriptorIndex := 6, attributes := #[] }, { accessFlags := 16409, nameIndex := 30, descriptorIndex := 6, attributes := #[] }, { accessFlags := 16409, nameIndex := 33, descriptorIndex := 6, attributes := #[] }, { accessFlags := 16409, nameIndex := 36, descriptorIndex := 6, attributes := #[] }, { accessFlags := 16409, nameIndex := 39, descriptorIndex := 6, attributes := #[] }, { accessFlags := 16409, nameIndex := 42, descriptorIndex := 6, attributes := #[] }, { accessFlags := 16409, nameIndex := 45, descriptorIndex := 6, attributes := #[] }, { accessFlags := 16409, nameIndex := 48, descriptorIndex := 6, attributes := #[] }, { accessFlags := 16409, nameIndex := 51, descriptorIndex := 6, attributes := #[] }, { accessFlags := 18, nameIndex := 73, descriptorIndex := 74, attributes := #[] }, { accessFlags := 18, nameIndex := 77, descriptorIndex := 78, attributes := #[] }, { accessFlags := 4122, nameIndex := 54, descriptorIndex := 55, attributes := #[] }])
  fields := #[{ name := "NANOS", type := (.object "java/time/temporal/ChronoUnit"), accessFlags := 16409, slot := 0, constantValue := 0 }, { name := "MICROS", type := (.object "java/time/temporal/ChronoUnit"), accessFlags := 16409, slot := 1, constantValue := 0 }, { name := "MILLIS", type := (.object "java/time/temporal/ChronoUnit"), accessFlags := 16409, slot := 2, constantValue := 0 }, { name := "SECONDS", type := (.object "java/time/temporal/ChronoUnit"), accessFlags := 16409, slot := 3, constantValue := 0 }, { name := "MINUTES", type := (.object "java/time/temporal/ChronoUnit"), accessFlags := 16409, slot := 4, constantValue := 0 }, { name := "HOURS", type := (.object "java/time/temporal/ChronoUnit"), accessFlags := 16409, slot := 5, constantValue := 0 }, { name := "HALF_DAYS", type := (.object "java/time/temporal/ChronoUnit"), accessFlags := 16409, slot := 6, constantValue := 0 }, { name := "DAYS", type := (.object "java/time/temporal/ChronoUnit"), accessFlags := 16409, slot := 7, constantValue := 0 }, { name := "WEEKS", type := (.object "java/time/temporal/ChronoUnit"), accessFlags := 16409, slot := 8, constantValue := 0 }, { name := "MONTHS", type := (.object "java/time/temporal/ChronoUnit"), accessFlags := 16409, slot := 9, constantValue := 0 }, { name := "YEARS", type := (.object "java/time/temporal/ChronoUnit"), accessFlags := 16409, slot := 10, constantValue := 0 }, { name := "DECADES", type := (.object "java/time/temporal/ChronoUnit"), accessFlags := 16409, slot := 11, constantValue := 0 }, { name := "CENTURIES", type := (.object "java/time/temporal/ChronoUnit"), accessFlags := 16409, slot := 12, constantValue := 0 }, { name := "MILLENNIA", type := (.object "java/time/temporal/ChronoUnit"), accessFlags := 16409, slot := 13, constantValue := 0 }, { name := "ERAS", type := (.object "java/time/temporal/ChronoUnit"), accessFlags := 16409, slot := 14, constantValue := 0 }, { name := "FOREVER", type := (.object "java/time/temporal/ChronoUnit"), accessFlags := 16409, slot := 15, constantValue := 0 }, { name := "name", type := (.object "java/lang/String"), accessFlags := 18, slot := 3, constantValue := 0 }, { name := "duration", type := (.object "java/time/Duration"), accessFlags := 18, slot := 4, constantValue := 0 }, { name := "$VALUES", type := (.array (.object "java/time/temporal/ChronoUnit")), accessFlags := 4122, slot := 16, constantValue := 0 }]
  methods := #[]
  instanceTypes := #[(.object "java/lang/String"), .int, .int, (.object "java/lang/String"), (.object "java/time/Duration")]
  staticTypes := #[(.object "java/time/temporal/ChronoUnit"), (.object "java/time/temporal/ChronoUnit"), (.object "java/time/temporal/ChronoUnit"), (.object "java/time/temporal/ChronoUnit"), (.object "java/time/temporal/ChronoUnit"), (.object "java/time/temporal/ChronoUnit"), (.object "java/time/temporal/ChronoUnit"), (.object "java/time/temporal/ChronoUnit"), (.object "java/time/temporal/ChronoUnit"), (.object "java/time/temporal/ChronoUnit"), (.object "java/time/temporal/ChronoUnit"), (.object "java/time/temporal/ChronoUnit"), (.object "java/time/temporal/ChronoUnit"), (.object "java/time/temporal/ChronoUnit"), (.object "java/time/temporal/ChronoUnit"), (.object "java/time/temporal/ChronoUnit"), (.array (.object "java/time/temporal/ChronoUnit"))]
  resolved := Array.replicate 237 none
  statics := some 2 }

def pool27 : Array CpInfo := pool [(2, .class_ 4), (1, u "java/lang/CharSequence"), (42, .class_ 48), (0, u "java/lang/CharSequence$1CodePointIterator"), (10, .class_ 60), (0, u "java/lang/CharSequence$1CharIterator"), (5, .class_ 67), (0, u "java/lang/Object")] 63

/-- java/lang/CharSequence -/
def k27 : Class := { plain "java/lang/CharSequence" (some 0) with
  accessFlags := 1537
  interfaces := #[]
  cf := some (fileOf pool27 2 #[.nestMembers #[47, 59]] #[] 1537 66 #[] #[])
  fields := #[]
  methods := #[]
  instanceTypes := #[]
  staticTypes := #[]
  resolved := Array.replicate 131 none
  statics := none }

def pool28 : Array CpInfo := pool [(2, .class_ 4), (1, u "java/lang/Object"), (0, u "<init>"), (0, u "()V"), (3, .class_ 12), (1, u "java/lang/String"), (0, u "value"), (0, u "[B"), (2, u "coder"), (0, u "B"), (2, u "hash"), (0, u "I"), (2, u "hashIsZero"), (0, u "Z"), (13, u "COMPACT_STRINGS"), (534, .class_ 576), (0, u "java/lang/CharSequence"), (22, u "CASE_INSENSITIVE_ORDER"), (0, u "Ljava/util/Comparator;"), (500, u "serialPersistentFields"), (0, u "[Ljava/io/ObjectStreamField;"), (0, .class_ 1104), (0, u "java/lang/String$CaseInsensitiveComparator"), (1, .class_ 1107), (0, u "java/io/Serializable"), (0, .class_ 1109), (0, u "java/lang/Comparable"), (0, .class_ 1111), (0, u "java/lang/constant/Constable"), (0, .class_ 1113), (0, u "java/lang/constant/ConstantDesc"), (2, u "serialVersionUID"), (0, u "J"), (3, u "REPL"), (0, u "C"), (2, u "LATIN1"), (1, u "UTF16")] 323

def k28m0 : Method := { name := "<init>", desc := "()V", sig := { parameters := [], returnType := none }, accessFlags := 1, code := none }
/-- java/lang/String -/
def k28 : Class := { plain "java/lang/String" (some 0) with
  accessFlags := 49
  interfaces := #[7, 5, 27, 9, 20]
  cf := some (fileOf pool28 10 #[.nestMembers #[1103]] #[{ accessFlags := 1, nameIndex := 5, descriptorIndex := 6, attributes := #[] }] 49 2 #[1106, 1108, 575, 1110, 1112] #[{ accessFlags := 18, nameIndex := 13, descriptorIndex := 14, attributes := #[] }, { accessFlags := 18, nameIndex := 17, descriptorIndex := 18, attributes := #[] }, { accessFlags := 2, nameIndex := 21, descriptorIndex := 22, attributes := #[] }, { accessFlags := 2, nameIndex := 25, descriptorIndex := 26, attributes := #[] }, { accessFlags := 26, nameIndex := 1116, descriptorIndex := 1117, attributes := #[] }, { accessFlags := 24, nameIndex := 40, descriptorIndex := 26, attributes := #[] }, { accessFlags := 26, nameIndex := 1101, descriptorIndex := 1102, attributes := #[] }, { accessFlags := 26, nameIndex := 1121, descriptorIndex := 1122, attributes := #[] }, { accessFlags := 25, nameIndex := 599, descriptorIndex := 600, attributes := #[] }, { accessFlags := 24, nameIndex := 1125, descriptorIndex := 18, attributes := #[] }, { accessFlags := 24, nameIndex := 1127, descriptorIndex := 18, attributes := #[] }])
  fields := #[{ name := "value", type := (.array .byte), accessFlags := 18, slot := 0, constantValue := 0 }, { name := "coder", type := .byte, accessFlags := 18, slot := 1, constantValue := 0 }, { name := "hash", type := .int, accessFlags := 2, slot := 2, constantValue := 0 }, { name := "hashIsZero", type := .boolean, accessFlags := 2, slot := 3, constantValue := 0 }, { name := "serialVersionUID", type := .long, accessFlags := 26, slot := 0, constantValue := 0 }, { name := "COMPACT_STRINGS", type := .boolean, accessFlags := 24, slot := 1, constantValue := 0 }, { name := "serialPersistentFields", type := (.array (.object "java/io/ObjectStreamField")), accessFlags := 26, slot := 2, constantValue := 0 }, { name := "REPL", type := .char, accessFlags := 26, slot := 3, constantValue := 0 }, { name := "CASE_INSENSITIVE_ORDER", type := (.object "java/util/Comparator"), accessFlags := 25, slot := 4, constantValue := 0 }, { name := "LATIN1", type := .byte, accessFlags := 24, slot := 5, constantValue := 0 }, { name := "UTF16", type := .byte, accessFlags := 24, slot := 6, constantValue := 0 }]
  methods := #[k28m0]
  instanceTypes := #[(.array .byte), .byte, .int, .boolean]
  staticTypes := #[.long, .boolean, (.array (.object "java/io/ObjectStreamField")), .char, (.object "java/util/Comparator"), .byte, .byte]
  resolved := Array.replicate 1451 none
  statics := none }

def pool29 : Array CpInfo := pool [(1, .class_ 2), (0, u "java/time/temporal/TemporalAmount"), (0, .class_ 4), (0, u "java/lang/Object")] 11

/-- java/time/temporal/TemporalAmount -/
def k29 : Class := { plain "java/time/temporal/TemporalAmount" (some 0) with
  accessFlags := 1537
  interfaces := #[]
  cf := some (fileOf pool29 1 #[] #[] 1537 3 #[] #[])
  fields := #[]
  methods := #[]
  instanceTypes := #[]
  staticTypes := #[]
  resolved := Array.replicate 16 none
  statics := none }

def pool30 : Array CpInfo := pool [(11, .class_ 13), (1, u "java/time/Duration"), (20, u "ZERO"), (0, u "Ljava/time/Duration;"), (13, .class_ 51), (1, u "java/time/temporal/TemporalAmount"), (27, .class_ 81), (1, u "java/time/Duration$Lazy"), (35, u "seconds"), (101, .class_ 220), (0, u "java/lang/Object"), (2, u "J"), (2, u "nanos"), (0, u "I"), (11, .class_ 241), (1, u "java/time/Duration$DurationUnits"), (27, .class_ 271), (1, u "java/time/Duration$1"), (91, u "BI_NANOS_PER_SECOND"), (0, u "Ljava/math/BigInteger;"), (120, .class_ 486), (0, u "java/lang/Comparable"), (0, .class_ 488), (0, u "java/io/Serializable"), (0, u "serialVersionUID")] 166

/-- java/time/Duration -/
def k30 : Class := { plain "java/time/Duration" (some 0) with
  accessFlags := 49
  interfaces := #[29, 5, 7]
  cf := some (fileOf pool30 11 #[.nestMembers #[269, 239, 79]] #[] 49 219 #[49, 485, 487] #[{ accessFlags := 25, nameIndex := 34, descriptorIndex := 35, attributes := #[] }, { accessFlags := 26, nameIndex := 489, descriptorIndex := 223, attributes := #[] }, { accessFlags := 26, nameIndex := 363, descriptorIndex := 364, attributes := #[] }, { accessFlags := 18, nameIndex := 117, descriptorIndex := 223, attributes := #[] }, { accessFlags := 18, nameIndex := 226, descriptorIndex := 227, attributes := #[] }])
  fields := #[{ name := "ZERO", type := (.object "java/time/Duration"), accessFlags := 25, slot := 0, constantValue := 0 }, { name := "serialVersionUID", type := .long, accessFlags := 26, slot := 1, constantValue := 0 }, { name := "BI_NANOS_PER_SECOND", type := (.object "java/math/BigInteger"), accessFlags := 26, slot := 2, constantValue := 0 }, { name := "seconds", type := .long, accessFlags := 18, slot := 0, constantValue := 0 }, { name := "nanos", type := .int, accessFlags := 18, slot := 1, constantValue := 0 }]
  methods := #[]
  instanceTypes := #[.long, .int]
  staticTypes := #[(.object "java/time/Duration"), .long, (.object "java/math/BigInteger")]
  resolved := Array.replicate 656 none
  statics := none }

def pool31 : Array CpInfo := pool [(1, u "java/lang/Cloneable"), (0, .class_ 1), (0, u "java/lang/Object"), (0, .class_ 3)] 3

/-- java/lang/Cloneable -/
def k31 : Class := { plain "java/lang/Cloneable" (some 0) with
  accessFlags := 1537
  interfaces := #[]
  cf := some (fileOf pool31 2 #[] #[] 1537 4 #[] #[])
  fields := #[]
  methods := #[]
  instanceTypes := #[]
  staticTypes := #[]
  resolved := Array.replicate 8 none
  statics := none }

/-- the primitive byte -/
def k32 : Class := { plain "byte" none with kind := .primitive 'B', accessFlags := 0x411 }
/-- [B -/
def k33 : Class := { plain "[B" (some 0) with kind := .array 32 .byte, interfaces := #[31, 7], accessFlags := 1041 }

/-- the primitive double -/
def k34 : Class := { plain "double" none with kind := .primitive 'D', accessFlags := 0x411 }
/-- [D -/
def k35 : Class := { plain "[D" (some 0) with kind := .array 34 .double, interfaces := #[31, 7], accessFlags := 1041 }

/-- the primitive int -/
def k36 : Class := { plain "int" none with kind := .primitive 'I', accessFlags := 0x411 }
/-- [I -/
def k37 : Class := { plain "[I" (some 0) with kind := .array 36 .int, interfaces := #[31, 7], accessFlags := 1041 }

/-- the primitive long -/
def k38 : Class := { plain "long" none with kind := .primitive 'J', accessFlags := 0x411 }
/-- [J -/
def k39 : Class := { plain "[J" (some 0) with kind := .array 38 .long, interfaces := #[31, 7], accessFlags := 1041 }

def heap : Heap := #[{ cls := 12, slots := #[.null, .null, .null, .null, .null, .null, .null, .null, .null, .null, .null, .null, .null, .null, .null, .null, .null, .null, .null, .null, .ref 8, .null, .null, .null, .null, .null, .null, .null, .null, .null, .null], vm := .statics 12 },
  { cls := 24, slots := #[.ref 9, .long 0, .long 0], vm := .statics 24 },
  { cls := 26, slots := #[.null, .null, .null, .null, .null, .null, .null, .ref 5, .null, .null, .null, .null, .null, .null, .null, .ref 6, .null], vm := .statics 26 },
  { cls := 28, slots := #[.null, .int 0, .int 0, .int 0], vm := .none },
  { cls := 30, slots := #[.long 0, .int 0], vm := .none },
  { cls := 26, slots := #[.ref 3, .int 7, .int 0, .ref 3, .ref 4], vm := .none },
  { cls := 26, slots := #[.ref 3, .int 15, .int 0, .ref 3, .ref 4], vm := .none },
  { cls := 13, slots := #[.long (-365243219162), .long (-365243219162), .long 365241780471, .long 365241780471], vm := .none },
  { cls := 12, slots := #[.ref 3, .int 20, .int 0, .ref 3, .ref 5, .ref 6, .ref 7, .null], vm := .none },
  { cls := 24, slots := #[], vm := .none }]
def classes : Array Class := #[k0, k1, k2, k3, k4, k5, k6, k7, k8, k9, k10, k11, k12, k13, k14, k15, k16, k17, k18, k19, k20, k21, k22, k23, k24, k25, k26, k27, k28, k29, k30, k31, k32, k33, k34, k35, k36, k37, k38, k39]
def interned : List (Array UInt16 × Addr) := []
def slotsUsed : Nat := 79
def theMethod : MethodId := ⟨1, 1⟩
def args0 : Array Value := #[.int 3, .long 5, .int 1, .int 2, .int 7, .int 9]
def aboutOver (below : List Frame) : State where
  vm := { classes := classes, interned := interned.toArray }
  heap := heap
  slotsUsed := slotsUsed
  threads := #[{ frames := .invoking theMethod args0 :: below }]
def below0 : List Frame := [.native { method := ⟨0, 0⟩, args := #[] }]
def about1 : State := aboutOver below0
def p0 : Program := .bare "" "" ""
def e0 : Env := launch0.env 0 0 0
theorem w_frames : about1.frames = Frame.invoking theMethod args0 :: below0 := rfl
set_option maxRecDepth 65536 in
theorem w_args : argsFit about1.vm theMethod args0 = true := by decide +kernel
set_option maxRecDepth 65536 in
theorem w_heap : heapFits about1 = true := by decide +kernel
set_option maxRecDepth 65536 in
theorem w_runnable : about1.curStatus? = some .runnable := by decide +kernel
set_option maxRecDepth 65536 in
theorem w_alone : about1.alone = true := by decide +kernel
set_option maxRecDepth 65536 in
theorem w_named : about1.methodNamed? x = some theMethod := by decide +kernel
set_option maxRecDepth 65536 in
theorem w_hears : about1.hears theMethod below0 = true := by decide +kernel
set_option maxRecDepth 65536 in
theorem w_ripe : about1.ripe theMethod args0 below0 = true := by decide +kernel
theorem w_running : about1.status = .running := rfl
set_option maxRecDepth 65536 in
theorem w_room : about1.hasRoom e0.platform room_1 = true :=
  launch0.hasRoom_least _ room_1 (by decide +kernel) (by decide +kernel) (by decide +kernel) (by decide +kernel) (by decide +kernel) (by decide +kernel)
theorem allAtoms_all (ts : List Jvm.Cond) (a : Array Jvm.Value) (st : Jvm.State) : (allAtoms ts).before a st = ts.all (fun c => c.before a st) := by
  induction ts with
  | nil => rfl
  | cons c t ih =>
    show (Jvm.Cond.and c (allAtoms t)).before a st = _
    rw [Jvm.Cond.before_and, ih, List.all_cons]
def words1 : List Jvm.Cond := Jvm.Cond.code x code maxLocals ret :: tables_1
/-- a 'code' word, met by the world's own term for the bytes: nothing is compared byte by byte -/
theorem code_word {y : MethodName} {bytes : ByteArray} {mx : Nat} {rt : Option FieldType} {a : Array Value} {s : State} {m : MethodId} {meth : Method} {c : Code} (h1 : s.methodNamed? y = some m) (h2 : s.vm.method? m = some meth) (h3 : meth.code = some c) (h4 : c.code = bytes)
    (h5 : (c.maxLocals == mx && c.exceptionTable.isEmpty && decide (c.maxStack ≤ mostOperands) && decide (meth.sig.returnType = rt) && !meth.locks && decide (parseMethodDescriptor y.desc = some meth.sig)) = true) : (Jvm.Cond.code y bytes mx rt).before a s = true := by
  simp only [Bool.and_eq_true, beq_iff_eq, Bool.not_eq_true', decide_eq_true_eq] at h5
  obtain ⟨⟨⟨⟨⟨g1, g2⟩, g3⟩, g4⟩, g5⟩, g6⟩ := h5
  simp [Cond.before, Cond.holds, Cond.value, h1, h2, h3, h4, g1, g2, g3, g4, g5, g6]
def isCode : Jvm.Cond → Bool
  | .code _ _ _ _ => true
  | _ => false
theorem all_split {L : List Jvm.Cond} {P : Jvm.Cond → Bool} (h1 : L.all (fun c => isCode c || P c) = true) (h2 : ∀ c ∈ L.filter isCode, P c = true) : L.all P = true := by
  refine List.all_eq_true.mpr fun c hc => ?_
  have h := List.all_eq_true.mp h1 c hc
  rcases Bool.eq_false_or_eq_true (isCode c) with hi | hi
  · exact h2 c (List.mem_filter.mpr ⟨hc, hi⟩)
  · simpa [hi] using h
set_option maxRecDepth 65536 in
theorem w_c0 : (Jvm.Cond.code x code maxLocals ret).before args0 about1 = true := code_word (m := ⟨1, 1⟩) (meth := k1m1) (c := k1c1) (by decide +kernel) rfl rfl rfl (by decide +kernel)
set_option maxRecDepth 65536 in
theorem w_c1 : (Jvm.Cond.code ({ cls := "java/time/LocalDate", name := "ofEpochDay", desc := "(J)Ljava/time/LocalDate;" } : Jvm.MethodName) jdk_2323_method_8_code (14 : Nat) (Option.some (Jvm.ClassFile.FieldType.object "java/time/LocalDate"))).before args0 about1 = true := code_word (m := ⟨8, 0⟩) (meth := k8m0) (c := k8c0) (by decide +kernel) rfl rfl rfl (by decide +kernel)
set_option maxRecDepth 65536 in
theorem w_c2 : (Jvm.Cond.code ({ cls := "java/time/temporal/ChronoField", name := "checkValidValue", desc := "(J)J" } : Jvm.MethodName) jdk_2395_method_11_code (3 : Nat) (Option.some Jvm.ClassFile.FieldType.long)).before args0 about1 = true := code_word (m := ⟨12, 1⟩) (meth := k12m1) (c := k12c1) (by decide +kernel) rfl rfl rfl (by decide +kernel)
set_option maxRecDepth 65536 in
theorem w_c3 : (Jvm.Cond.code ({ cls := "java/time/temporal/ChronoField", name := "range", desc := "()Ljava/time/temporal/ValueRange;" } : Jvm.MethodName) jdk_2395_method_8_code (1 : Nat) (Option.some (Jvm.ClassFile.FieldType.object "java/time/temporal/ValueRange"))).before args0 about1 = true := code_word (m := ⟨12, 0⟩) (meth := k12m0) (c := k12c0) (by decide +kernel) rfl rfl rfl (by decide +kernel)
set_option maxRecDepth 65536 in
theorem w_c4 : (Jvm.Cond.code ({ cls := "java/time/temporal/ValueRange", name := "checkValidValue", desc := "(JLjava/time/temporal/TemporalField;)J" } : Jvm.MethodName) jdk_2423_method_13_code (4 : Nat) (Option.some Jvm.ClassFile.FieldType.long)).before args0 about1 = true := code_word (m := ⟨13, 3⟩) (meth := k13m3) (c := k13c3) (by decide +kernel) rfl rfl rfl (by decide +kernel)
set_option maxRecDepth 65536 in
theorem w_c5 : (Jvm.Cond.code ({ cls := "java/time/temporal/ValueRange", name := "isValidValue", desc := "(J)Z" } : Jvm.MethodName) jdk_2423_method_11_code (3 : Nat) (Option.some Jvm.ClassFile.FieldType.boolean)).before args0 about1 = true := code_word (m := ⟨13, 2⟩) (meth := k13m2) (c := k13c2) (by decide +kernel) rfl rfl rfl (by decide +kernel)
set_option maxRecDepth 65536 in
theorem w_c6 : (Jvm.Cond.code ({ cls := "java/time/temporal/ValueRange", name := "getMinimum", desc := "()J" } : Jvm.MethodName) jdk_2423_method_6_code (1 : Nat) (Option.some Jvm.ClassFile.FieldType.long)).before args0 about1 = true := code_word (m := ⟨13, 0⟩) (meth := k13m0) (c := k13c0) (by decide +kernel) rfl rfl rfl (by decide +kernel)
set_option maxRecDepth 65536 in
theorem w_c7 : (Jvm.Cond.code ({ cls := "java/time/temporal/ValueRange", name := "getMaximum", desc := "()J" } : Jvm.MethodName) jdk_2423_method_9_code (1 : Nat) (Option.some Jvm.ClassFile.FieldType.long)).before args0 about1 = true := code_word (m := ⟨13, 1⟩) (meth := k13m1) (c := k13c1) (by decide +kernel) rfl rfl rfl (by decide +kernel)
set_option maxRecDepth 65536 in
theorem w_c8 : (Jvm.Cond.code ({ cls := "java/time/LocalDate", name := "<init>", desc := "(III)V" } : Jvm.MethodName) jdk_2323_method_14_code (4 : Nat) (Option.none : Option Jvm.ClassFile.FieldType)).before args0 about1 = true := code_word (m := ⟨8, 1⟩) (meth := k8m1) (c := k8c1) (by decide +kernel) rfl rfl rfl (by decide +kernel)
set_option maxRecDepth 65536 in
theorem w_c9 : (Jvm.Cond.code ({ cls := "java/lang/Object", name := "<init>", desc := "()V" } : Jvm.MethodName) object_method_1_code (1 : Nat) (Option.none : Option Jvm.ClassFile.FieldType)).before args0 about1 = true := code_word (m := ⟨0, 0⟩) (meth := k0m0) (c := k0c0) (by decide +kernel) rfl rfl rfl (by decide +kernel)
set_option maxRecDepth 65536 in
theorem w_c10 : (Jvm.Cond.code ({ cls := "com/example/hebelwerk/hebelwerk/engine/DatedValues$Builder", name := "<init>", desc := "()V" } : Jvm.MethodName) prog_20_method_1_code (1 : Nat) (Option.none : Option Jvm.ClassFile.FieldType)).before args0 about1 = true := code_word (m := ⟨14, 0⟩) (meth := k14m0) (c := k14c0) (by decide +kernel) rfl rfl rfl (by decide +kernel)
set_option maxRecDepth 65536 in
theorem w_c11 : (Jvm.Cond.code ({ cls := "com/example/hebelwerk/hebelwerk/engine/DatedValues$Builder", name := "build", desc := "()Lcom/example/hebelwerk/hebelwerk/engine/DatedValues;" } : Jvm.MethodName) prog_20_method_3_code (1 : Nat) (Option.some (Jvm.ClassFile.FieldType.object "com/example/hebelwerk/hebelwerk/engine/DatedValues"))).before args0 about1 = true := code_word (m := ⟨14, 2⟩) (meth := k14m2) (c := k14c2) (by decide +kernel) rfl rfl rfl (by decide +kernel)
set_option maxRecDepth 65536 in
theorem w_c12 : (Jvm.Cond.code ({ cls := "java/util/Arrays", name := "copyOf", desc := "([JI)[J" } : Jvm.MethodName) jdk_65_method_124_code (3 : Nat) (Option.some (Jvm.ClassFile.FieldType.array Jvm.ClassFile.FieldType.long))).before args0 about1 = true := code_word (m := ⟨16, 1⟩) (meth := k16m1) (c := k16c1) (by decide +kernel) rfl rfl rfl (by decide +kernel)
set_option maxRecDepth 65536 in
theorem w_c13 : (Jvm.Cond.code ({ cls := "java/lang/Math", name := "min", desc := "(II)I" } : Jvm.MethodName) jdk_29_method_69_code (2 : Nat) (Option.some Jvm.ClassFile.FieldType.int)).before args0 about1 = true := code_word (m := ⟨17, 2⟩) (meth := k17m2) (c := k17c2) (by decide +kernel) rfl rfl rfl (by decide +kernel)
set_option maxRecDepth 65536 in
theorem w_c14 : (Jvm.Cond.code ({ cls := "java/util/Arrays", name := "copyOf", desc := "([DI)[D" } : Jvm.MethodName) jdk_65_method_127_code (3 : Nat) (Option.some (Jvm.ClassFile.FieldType.array Jvm.ClassFile.FieldType.double))).before args0 about1 = true := code_word (m := ⟨16, 2⟩) (meth := k16m2) (c := k16c2) (by decide +kernel) rfl rfl rfl (by decide +kernel)
set_option maxRecDepth 65536 in
theorem w_c15 : (Jvm.Cond.code ({ cls := "com/example/hebelwerk/hebelwerk/engine/DatedValues", name := "<init>", desc := "([J[D)V" } : Jvm.MethodName) prog_19_method_1_code (3 : Nat) (Option.none : Option Jvm.ClassFile.FieldType)).before args0 about1 = true := code_word (m := ⟨15, 0⟩) (meth := k15m0) (c := k15c0) (by decide +kernel) rfl rfl rfl (by decide +kernel)
set_option maxRecDepth 65536 in
theorem w_c16 : (Jvm.Cond.code ({ cls := "com/example/hebelwerk/hebelwerk/engine/DatedValues", name := "size", desc := "()I" } : Jvm.MethodName) prog_19_method_3_code (1 : Nat) (Option.some Jvm.ClassFile.FieldType.int)).before args0 about1 = true := code_word (m := ⟨15, 2⟩) (meth := k15m2) (c := k15c2) (by decide +kernel) rfl rfl rfl (by decide +kernel)
set_option maxRecDepth 65536 in
theorem w_c17 : (Jvm.Cond.code ({ cls := "com/example/hebelwerk/hebelwerk/engine/DatedValues", name := "isEmpty", desc := "()Z" } : Jvm.MethodName) prog_19_method_2_code (1 : Nat) (Option.some Jvm.ClassFile.FieldType.boolean)).before args0 about1 = true := code_word (m := ⟨15, 1⟩) (meth := k15m1) (c := k15c1) (by decide +kernel) rfl rfl rfl (by decide +kernel)
set_option maxRecDepth 65536 in
theorem w_c18 : (Jvm.Cond.code ({ cls := "com/example/hebelwerk/hebelwerk/engine/DatedValues$Builder", name := "add", desc := "(Ljava/time/LocalDate;D)V" } : Jvm.MethodName) prog_20_method_2_code (6 : Nat) (Option.none : Option Jvm.ClassFile.FieldType)).before args0 about1 = true := code_word (m := ⟨14, 1⟩) (meth := k14m1) (c := k14c1) (by decide +kernel) rfl rfl rfl (by decide +kernel)
set_option maxRecDepth 65536 in
theorem w_c19 : (Jvm.Cond.code ({ cls := "java/time/LocalDate", name := "toEpochDay", desc := "()J" } : Jvm.MethodName) jdk_2323_method_67_code (7 : Nat) (Option.some Jvm.ClassFile.FieldType.long)).before args0 about1 = true := code_word (m := ⟨8, 3⟩) (meth := k8m3) (c := k8c3) (by decide +kernel) rfl rfl rfl (by decide +kernel)
set_option maxRecDepth 65536 in
theorem w_c20 : (Jvm.Cond.code ({ cls := "java/lang/Double", name := "isFinite", desc := "(D)Z" } : Jvm.MethodName) jdk_117_method_8_code (2 : Nat) (Option.some Jvm.ClassFile.FieldType.boolean)).before args0 about1 = true := code_word (m := ⟨21, 0⟩) (meth := k21m0) (c := k21c0) (by decide +kernel) rfl rfl rfl (by decide +kernel)
set_option maxRecDepth 65536 in
theorem w_c21 : (Jvm.Cond.code ({ cls := "java/lang/Math", name := "abs", desc := "(D)D" } : Jvm.MethodName) jdk_29_method_64_code (2 : Nat) (Option.some Jvm.ClassFile.FieldType.double)).before args0 about1 = true := code_word (m := ⟨17, 1⟩) (meth := k17m1) (c := k17c1) (by decide +kernel) rfl rfl rfl (by decide +kernel)
set_option maxRecDepth 65536 in
theorem w_c22 : (Jvm.Cond.code ({ cls := "com/example/hebelwerk/hebelwerk/engine/DatedValues", name := "date", desc := "(I)Ljava/time/LocalDate;" } : Jvm.MethodName) prog_19_method_7_code (2 : Nat) (Option.some (Jvm.ClassFile.FieldType.object "java/time/LocalDate"))).before args0 about1 = true := code_word (m := ⟨15, 3⟩) (meth := k15m3) (c := k15c3) (by decide +kernel) rfl rfl rfl (by decide +kernel)
set_option maxRecDepth 65536 in
theorem w_c23 : (Jvm.Cond.code ({ cls := "com/example/hebelwerk/hebelwerk/engine/DatedValues", name := "value", desc := "(I)D" } : Jvm.MethodName) prog_19_method_8_code (2 : Nat) (Option.some Jvm.ClassFile.FieldType.double)).before args0 about1 = true := code_word (m := ⟨15, 4⟩) (meth := k15m4) (c := k15c4) (by decide +kernel) rfl rfl rfl (by decide +kernel)
set_option maxRecDepth 65536 in
theorem w_c24 : (Jvm.Cond.code ({ cls := "java/time/LocalDate", name := "isLeapYear", desc := "()Z" } : Jvm.MethodName) jdk_2323_method_30_code (1 : Nat) (Option.some Jvm.ClassFile.FieldType.boolean)).before args0 about1 = true := code_word (m := ⟨8, 2⟩) (meth := k8m2) (c := k8c2) (by decide +kernel) rfl rfl rfl (by decide +kernel)
set_option maxRecDepth 65536 in
theorem w_c25 : (Jvm.Cond.code ({ cls := "java/time/chrono/IsoChronology", name := "isLeapYear", desc := "(J)Z" } : Jvm.MethodName) jdk_2369_method_18_code (3 : Nat) (Option.some Jvm.ClassFile.FieldType.boolean)).before args0 about1 = true := code_word (m := ⟨24, 1⟩) (meth := k24m1) (c := k24c1) (by decide +kernel) rfl rfl rfl (by decide +kernel)
def codes1 : List Jvm.Cond := [Jvm.Cond.code x code maxLocals ret, Jvm.Cond.code ({ cls := "java/time/LocalDate", name := "ofEpochDay", desc := "(J)Ljava/time/LocalDate;" } : Jvm.MethodName) jdk_2323_method_8_code (14 : Nat) (Option.some (Jvm.ClassFile.FieldType.object "java/time/LocalDate")), Jvm.Cond.code ({ cls := "java/time/temporal/ChronoField", name := "checkValidValue", desc := "(J)J" } : Jvm.MethodName) jdk_2395_method_11_code (3 : Nat) (Option.some Jvm.ClassFile.FieldType.long), Jvm.Cond.code ({ cls := "java/time/temporal/ChronoField", name := "range", desc := "()Ljava/time/temporal/ValueRange;" } : Jvm.MethodName) jdk_2395_method_8_code (1 : Nat) (Option.some (Jvm.ClassFile.FieldType.object "java/time/temporal/ValueRange")), Jvm.Cond.code ({ cls := "java/time/temporal/ValueRange", name := "checkValidValue", desc := "(JLjava/time/temporal/TemporalField;)J" } : Jvm.MethodName) jdk_2423_method_13_code (4 : Nat) (Option.some Jvm.ClassFile.FieldType.long), Jvm.Cond.code ({ cls := "java/time/temporal/ValueRange", name := "isValidValue", desc := "(J)Z" } : Jvm.MethodName) jdk_2423_method_11_code (3 : Nat) (Option.some Jvm.ClassFile.FieldType.boolean), Jvm.Cond.code ({ cls := "java/time/temporal/ValueRange", name := "getMinimum", desc := "()J" } : Jvm.MethodName) jdk_2423_method_6_code (1 : Nat) (Option.some Jvm.ClassFile.FieldType.long), Jvm.Cond.code ({ cls := "java/time/temporal/ValueRange", name := "getMaximum", desc := "()J" } : Jvm.MethodName) jdk_2423_method_9_code (1 : Nat) (Option.some Jvm.ClassFile.FieldType.long), Jvm.Cond.code ({ cls := "java/time/LocalDate", name := "<init>", desc := "(III)V" } : Jvm.MethodName) jdk_2323_method_14_code (4 : Nat) (Option.none : Option Jvm.ClassFile.FieldType), Jvm.Cond.code ({ cls := "java/lang/Object", name := "<init>", desc := "()V" } : Jvm.MethodName) object_method_1_code (1 : Nat) (Option.none : Option Jvm.ClassFile.FieldType), Jvm.Cond.code ({ cls := "com/example/hebelwerk/hebelwerk/engine/DatedValues$Builder", name := "<init>", desc := "()V" } : Jvm.MethodName) prog_20_method_1_code (1 : Nat) (Option.none : Option Jvm.ClassFile.FieldType), Jvm.Cond.code ({ cls := "com/example/hebelwerk/hebelwerk/engine/DatedValues$Builder", name := "build", desc := "()Lcom/example/hebelwerk/hebelwerk/engine/DatedValues;" } : Jvm.MethodName) prog_20_method_3_code (1 : Nat) (Option.some (Jvm.ClassFile.FieldType.object "com/example/hebelwerk/hebelwerk/engine/DatedValues")), Jvm.Cond.code ({ cls := "java/util/Arrays", name := "copyOf", desc := "([JI)[J" } : Jvm.MethodName) jdk_65_method_124_code (3 : Nat) (Option.some (Jvm.ClassFile.FieldType.array Jvm.ClassFile.FieldType.long)), Jvm.Cond.code ({ cls := "java/lang/Math", name := "min", desc := "(II)I" } : Jvm.MethodName) jdk_29_method_69_code (2 : Nat) (Option.some Jvm.ClassFile.FieldType.int), Jvm.Cond.code ({ cls := "java/util/Arrays", name := "copyOf", desc := "([DI)[D" } : Jvm.MethodName) jdk_65_method_127_code (3 : Nat) (Option.some (Jvm.ClassFile.FieldType.array Jvm.ClassFile.FieldType.double)), Jvm.Cond.code ({ cls := "com/example/hebelwerk/hebelwerk/engine/DatedValues", name := "<init>", desc := "([J[D)V" } : Jvm.MethodName) prog_19_method_1_code (3 : Nat) (Option.none : Option Jvm.ClassFile.FieldType), Jvm.Cond.code ({ cls := "com/example/hebelwerk/hebelwerk/engine/DatedValues", name := "size", desc := "()I" } : Jvm.MethodName) prog_19_method_3_code (1 : Nat) (Option.some Jvm.ClassFile.FieldType.int), Jvm.Cond.code ({ cls := "com/example/hebelwerk/hebelwerk/engine/DatedValues", name := "isEmpty", desc := "()Z" } : Jvm.MethodName) prog_19_method_2_code (1 : Nat) (Option.some Jvm.ClassFile.FieldType.boolean), Jvm.Cond.code ({ cls := "com/example/hebelwerk/hebelwerk/engine/DatedValues$Builder", name := "add", desc := "(Ljava/time/LocalDate;D)V" } : Jvm.MethodName) prog_20_method_2_code (6 : Nat) (Option.none : Option Jvm.ClassFile.FieldType), Jvm.Cond.code ({ cls := "java/time/LocalDate", name := "toEpochDay", desc := "()J" } : Jvm.MethodName) jdk_2323_method_67_code (7 : Nat) (Option.some Jvm.ClassFile.FieldType.long), Jvm.Cond.code ({ cls := "java/lang/Double", name := "isFinite", desc := "(D)Z" } : Jvm.MethodName) jdk_117_method_8_code (2 : Nat) (Option.some Jvm.ClassFile.FieldType.boolean), Jvm.Cond.code ({ cls := "java/lang/Math", name := "abs", desc := "(D)D" } : Jvm.MethodName) jdk_29_method_64_code (2 : Nat) (Option.some Jvm.ClassFile.FieldType.double), Jvm.Cond.code ({ cls := "com/example/hebelwerk/hebelwerk/engine/DatedValues", name := "date", desc := "(I)Ljava/time/LocalDate;" } : Jvm.MethodName) prog_19_method_7_code (2 : Nat) (Option.some (Jvm.ClassFile.FieldType.object "java/time/LocalDate")), Jvm.Cond.code ({ cls := "com/example/hebelwerk/hebelwerk/engine/DatedValues", name := "value", desc := "(I)D" } : Jvm.MethodName) prog_19_method_8_code (2 : Nat) (Option.some Jvm.ClassFile.FieldType.double), Jvm.Cond.code ({ cls := "java/time/LocalDate", name := "isLeapYear", desc := "()Z" } : Jvm.MethodName) jdk_2323_method_30_code (1 : Nat) (Option.some Jvm.ClassFile.FieldType.boolean), Jvm.Cond.code ({ cls := "java/time/chrono/IsoChronology", name := "isLeapYear", desc := "(J)Z" } : Jvm.MethodName) jdk_2369_method_18_code (3 : Nat) (Option.some Jvm.ClassFile.FieldType.boolean)]
set_option maxRecDepth 65536 in
theorem codes_eq : words1.filter isCode = codes1 := rfl
theorem w_codes : ∀ c ∈ words1.filter isCode, c.before args0 about1 = true := by
  rw [codes_eq]
  intro c hc
  simp only [codes1, List.mem_cons, List.not_mem_nil, or_false] at hc
  rcases hc with rfl | rfl | rfl | rfl | rfl | rfl | rfl | rfl | rfl | rfl | rfl | rfl | rfl | rfl | rfl | rfl | rfl | rfl | rfl | rfl | rfl | rfl | rfl | rfl | rfl | rfl
  · exact w_c0
  · exact w_c1
  · exact w_c2
  · exact w_c3
  · exact w_c4
  · exact w_c5
  · exact w_c6
  · exact w_c7
  · exact w_c8
  · exact w_c9
  · exact w_c10
  · exact w_c11
  · exact w_c12
  · exact w_c13
  · exact w_c14
  · exact w_c15
  · exact w_c16
  · exact w_c17
  · exact w_c18
  · exact w_c19
  · exact w_c20
  · exact w_c21
  · exact w_c22
  · exact w_c23
  · exact w_c24
  · exact w_c25
set_option maxRecDepth 65536 in
theorem w_t1 : (words1.take 24).all (fun c => isCode c || c.before args0 about1) = true := by decide +kernel
set_option maxRecDepth 65536 in
theorem w_t2 : ((words1.drop 24).take 24).all (fun c => isCode c || c.before args0 about1) = true := by decide +kernel
set_option maxRecDepth 65536 in
theorem w_t3 : (((words1.drop 24).drop 24).take 24).all (fun c => isCode c || c.before args0 about1) = true := by decide +kernel
set_option maxRecDepth 65536 in
theorem w_t4 : ((((words1.drop 24).drop 24).drop 24).take 24).all (fun c => isCode c || c.before args0 about1) = true := by decide +kernel
set_option maxRecDepth 65536 in
theorem w_t5 : (((((words1.drop 24).drop 24).drop 24).drop 24).take 24).all (fun c => isCode c || c.before args0 about1) = true := by decide +kernel
set_option maxRecDepth 65536 in
theorem w_t6 : ((((((words1.drop 24).drop 24).drop 24).drop 24).drop 24).take 24).all (fun c => isCode c || c.before args0 about1) = true := by decide +kernel
set_option maxRecDepth 65536 in
theorem w_t7 : (((((((words1.drop 24).drop 24).drop 24).drop 24).drop 24).drop 24).take 24).all (fun c => isCode c || c.before args0 about1) = true := by decide +kernel
set_option maxRecDepth 65536 in
theorem w_t8 : (((((((words1.drop 24).drop 24).drop 24).drop 24).drop 24).drop 24).drop 24).all (fun c => isCode c || c.before args0 about1) = true := by decide +kernel
theorem w_tables : (allAtoms (Jvm.Cond.code x code maxLocals ret :: tables_1)).before args0 about1 = true := by
  rw [allAtoms_all]
  show words1.all (fun c => c.before args0 about1) = true
  refine all_split ?_ w_codes
  rw [← List.take_append_drop 24 words1, List.all_append, w_t1, ← List.take_append_drop 24 (words1.drop 24), List.all_append, w_t2, ← List.take_append_drop 24 ((words1.drop 24).drop 24), List.all_append, w_t3, ← List.take_append_drop 24 (((words1.drop 24).drop 24).drop 24), List.all_append, w_t4, ← List.take_append_drop 24 ((((words1.drop 24).drop 24).drop 24).drop 24), List.all_append, w_t5, ← List.take_append_drop 24 (((((words1.drop 24).drop 24).drop 24).drop 24).drop 24), List.all_append, w_t6, ← List.take_append_drop 24 ((((((words1.drop 24).drop 24).drop 24).drop 24).drop 24).drop 24), List.all_append, w_t7, w_t8]
  rfl
set_option maxRecDepth 65536 in
theorem w_rest : rest_1_c.before args0 about1 = true := by decide +kernel
set_option maxRecDepth 65536 in
theorem w_case : (Jvm.Cond.and given_1 narrow_1).before args0 about1 = true := by decide +kernel
theorem w_applies : (headSpec (Jvm.Cond.code x code maxLocals ret :: tables_1) room_1).applies x e0.platform about1 = true :=
  (Spec.applies_iff w_frames).mpr ⟨w_running, w_runnable, w_alone, w_named, w_hears, w_ripe, w_room, w_tables⟩
theorem atStart : AtStart classFile x code maxLocals ret World_1 tables_1 room_1 Calls_1 rest_1 Pre_1 launch0 p0 e0 about1 theMethod args0 below0 :=
  ⟨lists_1, trivial, launch0.admits_env _ _ _, launch0.least_env, fairChoices_fair.cas, fairChoices_fair.clock, w_frames, w_args, w_heap, w_applies, trivial, w_rest, w_case⟩
end start1
theorem witness_1 : WitnessClaimed_1 := ⟨start1.p0, start1.e0, start1.about1, start1.theMethod, start1.args0, start1.below0, start1.atStart⟩
end Jvm.Pilot.@@N@@
